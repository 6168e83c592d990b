/-
  nat: sub, add, cmp, mul, sqr.
-/
import Derived.Test.YtnajekpckbfcdaaGreatDoorM03
set_option linter.unusedVariables false
set_option linter.unusedSimpArgs false
namespace Go.Proofs.YtnajekpckbfcdaaGreatDoor
open Go.RowKit

theorem Upd.undrew {S : List Nat} {w w' : World} (h : Upd S w.drew w') : Upd S w w' := ⟨h.os, h.tape, h.output, h.size, h.block⟩
theorem Upd.undrewN {S : List Nat} {w w' : World} {n : Nat} (h : Upd S (w.drewN n) w') : Upd S w w' := ⟨h.os, h.tape, h.output, h.size, h.block⟩

theorem read_after {w wr : World} {zb zo xb j : Nat} {cs : Array Value} {out : List Nat} {v : Value} (hz : Blk w zb 161 cs) (hu : Upd [zb] w wr) (hr : Blk wr zb 161 (putW cs zo out))
    (ha : xb = zb → j < zo ∨ zo + out.length ≤ j) (hx : w.cell? ⟨xb, j, none⟩ = some v) : wr.cell? ⟨xb, j, none⟩ = some v := by
  by_cases e : xb = zb
  · subst e
    rw [hr.cell, putW_out _ _ _ _ (ha rfl), ← hz.cell]
    exact hx
  · rw [hu.cell (p := ⟨xb, j, none⟩) (lt_of_cell hx) (by simpa using e)]
    exact hx
theorem blk_after {w wr : World} {zb xb : Nat} {cs' cx : Array Value} (hu : Upd [zb] w wr) (hr : Blk wr zb 161 cs') (hx : Blk w xb 161 cx) : ∃ cx', Blk wr xb 161 cx' := by
  by_cases e : xb = zb
  · subst e; exact ⟨_, hr⟩
  · exact ⟨cx, hx.upd hu (by simpa using e)⟩

theorem mem_app {P : Nat → Prop} {a b : List Nat} (h : ∀ x ∈ a, P x) (h' : ∀ x ∈ b, P x) : ∀ x ∈ a ++ b, P x := by
  intro x hx
  rcases List.mem_append.1 hx with h1 | h1
  · exact h x h1
  · exact h' x h1

theorem sub_end (out : List Nat) (a b c m : Nat) (hl : out.length = m) (hd : ∀ d ∈ out, d < 18446744073709551616) (h : val out + b = a + 18446744073709551616 ^ m * c) (hab : b ≤ a) : c = 0 ∧ val out = a - b := by
  have hlt := val_lt out hd
  rw [hl] at hlt
  have hc : c = 0 := by
    rcases Nat.eq_zero_or_pos c with h0 | h0
    · exact h0
    · have : 18446744073709551616 ^ m * 1 ≤ 18446744073709551616 ^ m * c := Nat.mul_le_mul_left _ h0
      omega
  subst hc
  exact ⟨rfl, by omega⟩

set_option maxHeartbeats 4000000 in
theorem sub_pos (w : World) (Z X Y : Option Addr) (Lz Cz Lx Cx Ly Cy a b : Nat) (wz : List Nat) (hZ : NatS w Z Lz Cz wz) (hX : NatS w X Lx Cx (wo a)) (hY : NatS w Y Ly Cy (wo b)) (hLx : Lx ≤ 1000) (hab : b ≤ a) (hb0 : b ≠ 0) (hLL : Ly ≤ Lx) :
    Calls Tryz.prog 105 #[.slice Z Lz Cz, .slice X Lx Cx, .slice Y Ly Cy] w (NatRes w Z (a - b)) := by
  have hlx := hX.1
  have hly := hY.1
  have hpy := wo_len_pos hb0
  rw [hly] at hpy
  have HLX := hide hlx
  have HLY := hide hly
  clear hlx hly
  have hCx := hX.2.2.1
  have hCy := hY.2.2.1
  have hCz := hZ.2.2.2.1
  have hCx1 := hX.2.2.2.1
  have hCy1 := hY.2.2.2.1
  have t1 : ((Lx : Int) == 0) = false := beq_eq_false_iff_ne.2 (by omega)
  have t2 : ((Ly : Int) == 0) = false := beq_eq_false_iff_ne.2 (by omega)
  have t3 : ¬ Lx < Ly := by omega
  have t4 : ¬ (Lx : Int) < (Ly : Int) := by omega
  go_enter Tryz.func105, Tryz.ntmps105
  go_wp2_with fail
  refine (make_any w Z Lz Cz Lx wz (by omega) hZ).mono ?_
  rintro e w1 ⟨A', C', rfl, hu, hC', hC2, hr1⟩
  rcases hr1 with ⟨_, h0, _⟩ | ⟨g, cs, rfl, hb, hcs, hC0, hbz⟩
  · omega
  have hX1 := hX.upd hu (by simp)
  have hY1 := hY.upd hu (by simp)
  obtain ⟨bx, cx, rfl, hbx, hcx, hwx⟩ := hX1.row (by omega)
  obtain ⟨by', cy, rfl, hby, hcy, hwy⟩ := hY1.row (by omega)
  have hxc := hX1.cells
  have hyc := hY1.cells
  have hXt : ∀ i, i < Ly → w1.cell? ⟨bx, 0 + i, none⟩ = some (W64 (((wo a).take Ly).getD i 0)) := fun i hi => by
    rw [Nat.zero_add, hxc i (by omega)]
    simp [List.getD, List.getElem?_take_of_lt hi]
  have hC := subVV_any w1.drew g 0 bx 0 by' 0 Ly C' Cx Cy cs ((wo a).take Ly) (wo b) (by omega) (by rw [List.length_take, HLX.out]; omega) HLY.out hb (by omega) hXt (fun _ => Nat.le_refl _)
    (by simpa using hyc) (fun _ => Nat.le_refl _) (fun d hd => wo_lt a d (List.mem_of_mem_take hd)) (wo_lt b)
  have HC := hide hC
  clear hC
  have p1 : Ly ≤ C' := by omega
  have p2 : Ly ≤ Cx := by omega
  have p3 : (Ly : Int) ≤ (C' : Int) := by omega
  have p4 : (Ly : Int) ≤ (Cx : Int) := by omega
  have p5 : (Ly : Int) ≤ (Cy : Int) := by omega
  have p6 : (0 : Int) ≤ (Ly : Int) := by omega
  go_wp2_with fail
  go_region_held3 (fun w' => True) (trivial) (first | (go_at_call 143; refine HC.out.mono ?_; rintro e w2 ⟨c, out, rfl, h1, h2, h3, h4, h5, h6⟩))
  have h6 := h6.undrew
  have H2 := hide h2
  have H3 := hide h3
  clear h2 h3
  obtain ⟨h4, hc1⟩ := h4
  have H4 := hide h4
  clear h4
  by_cases hlt : Ly < Lx
  · have hX2 : ∀ i, i < Lx - Ly → w2.cell? ⟨bx, Ly + i, none⟩ = some (W64 (((wo a).drop Ly).getD i 0)) := fun i hi => by
      rw [getD_drop]
      exact read_after hb h6 h5 (fun _ => .inr (by rw [H2.out]; omega)) (hxc (Ly + i) (by omega))
    obtain ⟨cx2, hbx2⟩ := blk_after h6 h5 hbx
    have hC2 := subVW_any w2.drew g Ly bx Ly (Lx - Ly) (C' - Ly) (Cx - Ly) c (putW cs 0 out) ((wo a).drop Ly) (by omega) (by rw [List.length_drop, HLX.out]) (by omega) (by omega) (by omega) (by omega)
      h5 (by rw [putW_size]; omega) cx2 hbx2 hX2 (fun _ => rfl) (fun d hd => wo_lt a d (List.mem_of_mem_drop hd)) h1
    have HC2 := hide hC2
    clear hC2
    have q1 : ¬ C' = Ly := by omega
    have q2 : ¬ Cx = Ly := by omega
    have q3 : (Ly : Int) ≤ (Lx : Int) := by omega
    have q4 : (Ly : Int) < (Lx : Int) := by omega
    have q5 : Ly ≤ Lx := by omega
    go_wp2_with fail
    go_region_held3 (fun w' => True) (trivial) (first | (go_at_call 144; refine HC2.out.mono ?_; rintro e w3 ⟨c2, out2, rfl, g1, g2, g3, g4, g5, g6⟩))
    have g6 := g6.undrew
    have G2 := hide g2
    have G3 := hide g3
    have G4 := hide g4
    clear g2 g3 g4
    have hlen : (out ++ out2).length = Lx := by rw [List.length_append, H2.out, G2.out]; omega
    have hval : val (out ++ out2) + b = a + 18446744073709551616 ^ Lx * c2 := by
      have e1 : val (wo a) = val ((wo a).take Ly) + 18446744073709551616 ^ Ly * val ((wo a).drop Ly) := val_take_drop _ _ (by rw [HLX.out]; omega)
      have e2 := H4.out
      rw [val_wo] at e1 e2
      have e3 : 18446744073709551616 ^ Ly * (val out2 + c) = 18446744073709551616 ^ Ly * (val ((wo a).drop Ly) + 18446744073709551616 ^ (Lx - Ly) * c2) := by rw [G4.out]
      rw [Nat.mul_add, Nat.mul_add, ← Nat.mul_assoc, ← Nat.pow_add, show Ly + (Lx - Ly) = Lx from by omega] at e3
      rw [val_append, H2.out]
      omega
    have hall : ∀ d ∈ out ++ out2, d < 18446744073709551616 := mem_app H3.out G3.out
    obtain ⟨hc2, hv⟩ := sub_end _ a b c2 Lx hlen hall hval hab
    subst hc2
    have hput := putW_append out out2 cs 0
    rw [H2.out, Nat.zero_add] at hput
    rw [hput] at g5
    have hnb := norm_blk w3 g Lx C' _ (out ++ out2) hlen g5 (Wd.put _ _ _ (by rw [hlen]; omega)) hall (by rw [putW_size]; exact hcs) hC' hC0 hC2
    rw [hv] at hnb
    have HNB := hide hnb
    clear hnb hv hlen hput hval hall
    go_wp2_with fail
    refine HNB.out.mono ?_
    rintro e w4 ⟨k, rfl, hS, rfl⟩
    go_wp2
    go_ret
    refine ⟨_, k, C', rfl, hS, ?_, by simpa [bof] using hbz⟩
    exact hu.into (h6.trans g6 (fun k hk _ => hk)) (by simp) hbz
  · obtain rfl : Lx = Ly := by omega
    have hval : val out + b = a + 18446744073709551616 ^ Lx * c := by
      have e2 := H4.out
      have e1 : (wo a).take Lx = wo a := List.take_of_length_le (by rw [HLX.out]; exact Nat.le_refl _)
      rw [e1, val_wo, val_wo] at e2
      exact e2
    obtain ⟨hc2, hv⟩ := sub_end _ a b c Lx H2.out H3.out hval hab
    subst hc2
    have hnb := norm_blk w2 g Lx C' _ out H2.out h5 (Wd.put _ _ _ (by rw [H2.out]; omega)) H3.out (by rw [putW_size]; exact hcs) hC' hC0 hC2
    rw [hv] at hnb
    have HNB := hide hnb
    clear hnb hv hval
    go_wp2_with fail
    refine HNB.out.mono ?_
    rintro e w4 ⟨k, rfl, hS, rfl⟩
    go_wp2
    go_ret
    refine ⟨_, k, C', rfl, hS, ?_, by simpa [bof] using hbz⟩
    exact hu.into h6 (by simp) hbz

theorem wo_len_mono {a b : Nat} (h : b ≤ a) : (wo b).length ≤ (wo a).length := by
  have := val_lt (wo a) (wo_lt a)
  rw [val_wo] at this
  exact wo_len_le (by omega)

/-- z = x - y -/
theorem sub_any (w : World) (Z X Y : Option Addr) (Lz Cz Lx Cx Ly Cy a b : Nat) (wz : List Nat) (hZ : NatS w Z Lz Cz wz) (hX : NatS w X Lx Cx (wo a)) (hY : NatS w Y Ly Cy (wo b)) (hLx : Lx ≤ 1000) (hab : b ≤ a) :
    Calls Tryz.prog 105 #[.slice Z Lz Cz, .slice X Lx Cx, .slice Y Ly Cy] w (NatRes w Z (a - b)) := by
  have hm := wo_len_mono hab
  rw [hX.1, hY.1] at hm
  by_cases hb0 : b = 0
  · subst hb0
    have hly : Ly = 0 := by rw [← hY.1, wo_zero]; rfl
    subst hly
    rw [Nat.sub_zero]
    by_cases ha0 : a = 0
    · subst ha0
      have hlx : Lx = 0 := by rw [← hX.1, wo_zero]; rfl
      subst hlx
      have hCz := hZ.2.2.2.1
      go_enter Tryz.func105, Tryz.ntmps105
      go_wp2
      go_ret
      obtain ⟨h1, h2, h3, h4, h5⟩ := hZ
      refine ⟨Z, 0, Cz, rfl, ?_, Upd.refl _ _, fun b hb => .inl hb⟩
      rw [wo_zero]
      refine ⟨rfl, by simp, Nat.zero_le _, h4, ?_⟩
      rcases h5 with ⟨h6, h7, h8⟩ | ⟨b, cs, h6, h7, h8, h9, h10⟩
      · exact .inl ⟨h6, rfl, h8⟩
      · exact .inr ⟨b, cs, h6, h7, h8, h9, Wd.nil _ _⟩
    · have hpx := wo_len_pos ha0
      rw [hX.1] at hpx
      have t1 : ((Lx : Int) == 0) = false := beq_eq_false_iff_ne.2 (by omega)
      have t3 : ¬ Lx < 0 := by omega
      have hs := set_any w Z X Lz Cz Lx Cx a wz hZ hX hLx
      go_enter Tryz.func105, Tryz.ntmps105
      go_wp2_with fail
      refine hs.mono ?_
      rintro e w1 ⟨A', L', C', rfl, h1, h2, h3⟩
      go_wp2
      go_ret
      exact ⟨A', L', C', rfl, h1, h2, h3⟩
  · exact sub_pos w Z X Y Lz Cz Lx Cx Ly Cy a b wz hZ hX hY hLx hab hb0 hm

end Go.Proofs.YtnajekpckbfcdaaGreatDoor

namespace Go.Proofs.YtnajekpckbfcdaaGreatDoor
open Go.RowKit

/-- How two numbers compare. -/
def ncmp (a b : Nat) : Int := if a < b then -1 else if b < a then 1 else 0
theorem ncmp_lt {a b : Nat} (h : a < b) : ncmp a b = -1 := by rw [ncmp, if_pos h]
theorem ncmp_gt {a b : Nat} (h : b < a) : ncmp a b = 1 := by rw [ncmp, if_neg (by omega), if_pos h]
theorem ncmp_eq (a : Nat) : ncmp a a = 0 := by rw [ncmp, if_neg (by omega), if_neg (by omega)]

theorem drop_succ_getD (xs : List Nat) (k : Nat) (h : k < xs.length) : xs.drop k = xs.getD k 0 :: xs.drop (k + 1) := by
  rw [List.drop_eq_getElem_cons h]; simp [List.getD, h]

/-- Where the words above place k agree, those at k decide. -/
theorem cmp_at (xs ys : List Nat) (k : Nat) (hx : k < xs.length) (hy : k < ys.length) (hxs : ∀ d ∈ xs, d < 18446744073709551616) (hys : ∀ d ∈ ys, d < 18446744073709551616) (hd : xs.drop (k + 1) = ys.drop (k + 1))
    (h : xs.getD k 0 < ys.getD k 0) : val xs < val ys := by
  rw [val_take_drop xs k (by omega), val_take_drop ys k (by omega), drop_succ_getD xs k hx, drop_succ_getD ys k hy, val_cons, val_cons, hd]
  have h1 := val_lt (xs.take k) (fun d hd => hxs d (List.mem_of_mem_take hd))
  rw [List.length_take, Nat.min_eq_left (by omega)] at h1
  have h2 : 18446744073709551616 ^ k * (xs.getD k 0 + 1) ≤ 18446744073709551616 ^ k * (ys.getD k 0) := Nat.mul_le_mul_left _ h
  rw [Nat.mul_add, Nat.mul_add]
  rw [Nat.mul_add] at h2
  omega

set_option maxHeartbeats 4000000 in
theorem cmp_any (w : World) (X Y : Option Addr) (Lx Cx Ly Cy a b : Nat) (hX : NatS w X Lx Cx (wo a)) (hY : NatS w Y Ly Cy (wo b)) (hLx : Lx ≤ 1000) (hLy : Ly ≤ 1000) :
    Calls Tryz.prog 104 #[.slice X Lx Cx, .slice Y Ly Cy] w fun e w' => e = .returned (.int .i64 (ncmp a b)) ∧ ∃ n, w' = w.drewN n := by
  have hm1 := @wo_len_mono a b
  have hm2 := @wo_len_mono b a
  rw [hX.1, hY.1] at hm1 hm2
  have HLX := hide hX.1
  have HLY := hide hY.1
  rcases Nat.lt_trichotomy Lx Ly with h | h | h
  · have hab : a < b := by
      rcases Nat.lt_or_ge a b with h1 | h1
      · exact h1
      · have := hm1 h1; omega
    rw [ncmp_lt hab]
    clear hm1 hm2
    have t1 : ((Lx : Int) != (Ly : Int)) = true := by rw [bne_iff_ne]; omega
    have t1b : ((Lx : Int) == (Ly : Int)) = false := beq_eq_false_iff_ne.2 (by omega)
    have t2 : (Lx : Int) < (Ly : Int) := by omega
    go_enter Tryz.func104, Tryz.ntmps104
    go_wp2
    go_ret
    exact ⟨rfl, 0, rfl⟩
  · subst h
    by_cases h0 : Lx = 0
    · subst h0
      have ha : a = 0 := by
        rcases Nat.eq_zero_or_pos a with h | h
        · exact h
        · have := wo_len_pos (by omega : a ≠ 0); rw [HLX.out] at this; omega
      have hb : b = 0 := by
        rcases Nat.eq_zero_or_pos b with h | h
        · exact h
        · have := wo_len_pos (by omega : b ≠ 0); rw [HLY.out] at this; omega
      subst ha
      subst hb
      rw [ncmp_eq]
      clear hm1 hm2
      go_enter Tryz.func104, Tryz.ntmps104
      go_wp2
      go_ret
      exact ⟨rfl, 0, rfl⟩
    · obtain ⟨bx, cx, rfl, hbx, hcx, hwx⟩ := hX.row (by have := hX.2.2.1; omega)
      obtain ⟨by', cy, rfl, hby, hcy, hwy⟩ := hY.row (by have := hY.2.2.1; omega)
      have HXC := hide hX.cells
      have HYC := hide hY.cells
      clear hm1 hm2
      have t1 : ((Lx : Int) == 0) = false := beq_eq_false_iff_ne.2 (by omega)
      have t2 : wrap64 ((Lx : Int) - 1) = ((Lx - 1 : Nat) : Int) := by unfold wrap64; omega
      have t3 : (Lx : Int) - 1 = ((Lx - 1 : Nat) : Int) := by omega
      obtain ⟨m, hm⟩ : ∃ m, Lx = m + 1 := ⟨Lx - 1, by omega⟩
      subst hm
      simp only [Nat.add_sub_cancel] at t2 t3
      have t4 : (((m : Int) + 1) == 0) = false := beq_eq_false_iff_ne.2 (by omega)
      go_enter Tryz.func104, Tryz.ntmps104
      go_wp2
      go_loopw [7] (fun i wr => ∃ (k q : Nat), k ≤ m ∧ i = .int .i64 k ∧ Hid ((wo a).drop (k + 1) = (wo b).drop (k + 1)) ∧ wr = w.drewN q) (fun i _ => (intOf i).toNat)
      case atStart =>
        refine ⟨m, 0, Nat.le_refl _, by go_num, ?_, rfl⟩
        show _ = _
        rw [List.drop_of_length_le (by rw [HLX.out]; exact Nat.le_refl _), List.drop_of_length_le (by rw [HLY.out]; exact Nat.le_refl _)]
      case round =>
        obtain ⟨k, q, hk, rfl, hd, rfl⟩ := hrel
        have cxk := HXC.out k (by omega)
        have cyk := HYC.out k (by omega)
        obtain ⟨xk, hxk⟩ : ∃ xk, (wo a).getD k 0 = xk := ⟨_, rfl⟩
        obtain ⟨yk, hyk⟩ : ∃ yk, (wo b).getD k 0 = yk := ⟨_, rfl⟩
        rw [hxk] at cxk
        rw [hyk] at cyk
        have HXK := hide hxk
        have HYK := hide hyk
        clear hxk hyk
        have hkx : k < (wo a).length := by rw [HLX.out]; omega
        have hky : k < (wo b).length := by rw [HLY.out]; omega
        have b0 : (0 : Int) ≤ (k : Int) := Int.natCast_nonneg _
        have b1 : (k : Int) < (m : Int) + 1 := by omega
        by_cases hxy : xk = yk
        · subst hxy
          by_cases hk0 : k = 0
          · subst hk0
            have hab : a = b := by
              have h1 := drop_succ_getD (wo a) 0 hkx
              have h2 := drop_succ_getD (wo b) 0 hky
              rw [HXK.out, hd.out] at h1
              rw [HYK.out] at h2
              rw [← val_wo a, ← val_wo b, ← List.drop_zero (l := wo a), ← List.drop_zero (l := wo b), h1, h2]
            have HAB := hide hab
            clear hab
            have e0 : decide (xk < xk) = false := by simp
            go_wp2_with fail
            go_quiet (fail)
            go_wp2_with fail
            go_quiet (fail)
            go_wp2_with fail
            go_quiet (fail)
            go_wp2
            go_ret
            refine ⟨ret_int (by rw [HAB.out, ncmp_eq]), ?_⟩; simp only [World.drewN_drewN]; exact ⟨_, rfl⟩
          · obtain ⟨j, hj⟩ : ∃ j, k = j + 1 := ⟨k - 1, by omega⟩
            subst hj
            have p0 : 0 < j + 1 := by omega
            have p1 : (0 : Int) < (j : Int) + 1 := by omega
            go_wp2_with fail
            go_quiet (fail)
            go_wp2
            go_roundw
            case rel =>
              refine ⟨j, _, by omega, by go_num, ?_, rfl⟩
              show _ = _
              rw [drop_succ_getD (wo a) (j + 1) hkx, drop_succ_getD (wo b) (j + 1) hky, HXK.out, HYK.out, hd.out]
            case measure => simp [intOf]
        · have e1 : ((xk : Int) == (yk : Int)) = false := beq_eq_false_iff_ne.2 (by omega)
          have e2 : ¬ (xk : Int) = (yk : Int) := by omega
          rcases (by omega : xk < yk ∨ yk < xk) with hl | hl
          · have hab : a < b := by
              have := cmp_at (wo a) (wo b) k hkx hky (wo_lt a) (wo_lt b) hd.out (by rw [HXK.out, HYK.out]; exact hl)
              rw [val_wo, val_wo] at this
              exact this
            have l1 : (xk : Int) < (yk : Int) := by omega
            have l3 : decide (xk < yk) = true := by simp; omega
            have HAB := hide hab
            clear hab
            by_cases hk0 : k = 0
            · subst hk0
              go_wp2_with fail
              go_quiet (fail)
              go_wp2_with fail
              go_quiet (fail)
              go_wp2
              go_ret
              refine ⟨ret_int (by rw [ncmp_lt HAB.out]), ?_⟩; simp only [World.drewN_drewN]; exact ⟨_, rfl⟩
            · have p0 : 0 < k := by omega
              have p1 : (0 : Int) < (k : Int) := by omega
              go_wp2_with fail
              go_quiet (fail)
              go_wp2_with fail
              go_quiet (fail)
              go_wp2
              go_ret
              refine ⟨ret_int (by rw [ncmp_lt HAB.out]), ?_⟩; simp only [World.drewN_drewN]; exact ⟨_, rfl⟩
          · have hab : b < a := by
              have := cmp_at (wo b) (wo a) k hky hkx (wo_lt b) (wo_lt a) hd.out.symm (by rw [HXK.out, HYK.out]; exact hl)
              rw [val_wo, val_wo] at this
              exact this
            have l1 : (yk : Int) < (xk : Int) := by omega
            have l2 : ¬ (xk : Int) < (yk : Int) := by omega
            have l3 : decide (xk < yk) = false := by simp; omega
            have l4 : decide (yk < xk) = true := by simp; omega
            have HAB := hide hab
            clear hab
            by_cases hk0 : k = 0
            · subst hk0
              go_wp2_with fail
              go_quiet (fail)
              go_wp2_with fail
              go_quiet (fail)
              go_wp2_with fail
              go_quiet (fail)
              go_wp2
              go_ret
              refine ⟨ret_int (by rw [ncmp_gt HAB.out]), ?_⟩; simp only [World.drewN_drewN]; exact ⟨_, rfl⟩
            · have p0 : 0 < k := by omega
              have p1 : (0 : Int) < (k : Int) := by omega
              go_wp2_with fail
              go_quiet (fail)
              go_wp2_with fail
              go_quiet (fail)
              go_wp2_with fail
              go_quiet (fail)
              go_wp2
              go_ret
              refine ⟨ret_int (by rw [ncmp_gt HAB.out]), ?_⟩; simp only [World.drewN_drewN]; exact ⟨_, rfl⟩
  · have hab : b < a := by
      rcases Nat.lt_or_ge b a with h1 | h1
      · exact h1
      · have := hm2 h1; omega
    rw [ncmp_gt hab]
    clear hm1 hm2
    have t1 : ((Lx : Int) != (Ly : Int)) = true := by rw [bne_iff_ne]; omega
    have t1b : ((Lx : Int) == (Ly : Int)) = false := beq_eq_false_iff_ne.2 (by omega)
    have t2 : ¬ (Lx : Int) < (Ly : Int) := by omega
    have t3 : (Ly : Int) < (Lx : Int) := by omega
    go_enter Tryz.func104, Tryz.ntmps104
    go_wp2
    go_ret
    exact ⟨rfl, 0, rfl⟩
end Go.Proofs.YtnajekpckbfcdaaGreatDoor

namespace Go.Proofs.YtnajekpckbfcdaaGreatDoor
open Go.RowKit

theorem zeroCells_u64 (n : Nat) : (Builtin.zeroCells #[(.int .u64 0 : Value)] n).toList = (List.replicate n 0).map W64 := by
  apply List.ext_getElem?
  intro i
  simp only [Builtin.zeroCells, Array.toList_map, List.getElem?_map]
  by_cases h : i < n
  · simp [h, Nat.mod_one]
  · simp [h]

theorem run_clear_W (w : World) (g o n c : Nat) (cur : Array Value) (ty : TypeId) (hg : Blk w g 161 cur) (hn : 0 < n) (hfit : o + n ≤ cur.size) :
    (Builtin.clear_ #[131] ty #[.slice (some ⟨g, o, none⟩) n c]).run Tryz.prog w = .ok (.tuple #[]) (w.setRow g (putW cur o (List.replicate n 0))) := by
  have h1 : ∀ v ∈ (List.replicate n 0).map W64, v.oneCell' = true := by
    intro v hv
    obtain ⟨d, _, rfl⟩ := List.mem_map.1 hv
    rfl
  have hst := run_storeCells_at Tryz.prog g o 161 ((List.replicate n 0).map W64) 0 cur w hg (by simpa using hfit) h1
  rw [Nat.add_zero, List.append_assoc, setRow_putW _ _ _ (by simpa using hfit)] at hst
  obtain ⟨m, rfl⟩ : ∃ m, n = m + 1 := ⟨n - 1, by omega⟩
  have hz := Tryz.zeroValue161 w
  have hzc := zeroCells_u64 (m + 1)
  simp only [Builtin.clear_]
  simp [run_underlying Tryz.underlying131, hz, Value.cells, -List.map_replicate]
  rw [hzc, hst]
  rfl

theorem wpList_clear_W {w : World} {ops : Array Oper} {rest : List Oper} {o : Oper} {a : Act} {Q : Exit → Act → World → Prop} (hgd : o.guard = none) (s : Operand)
    (ho : o.op = .call { callee := .builtin .clear, args := #[s], argTypes := #[131] })
    (g off n c : Nat) (hs : a.eval s = .slice (some ⟨g, off, none⟩) n c) (cur : Array Value) (hg : Blk w g 161 cur) (hn : 0 < n) (hfit : off + n ≤ cur.size)
    (h : ∀ w', Blk w' g 161 (putW cur off (List.replicate n 0)) → Upd [g] w w' → wpList Tryz.prog ops Q rest (a.put o.dst (.tuple #[])) w') : wpList Tryz.prog ops Q (o :: rest) a w := by
  refine wpList_plain hgd fun K hK => ?_
  have hrun := run_clear_W w g off n c cur o.type hg hn hfit
  have h2 := h (w.setRow g (putW cur off (List.replicate n 0))) (by unfold Blk at hg ⊢; simp [World.setRow, Array.getElem?_modify, hg]) (setRow_upd _ _ _)
  unfold Oper.wp
  simp [execOp, ho, resolve, invoke, builtin, hs, hrun, Result.andThen]
  exact hK _ _ h2

theorem Wd.set_mid {cs : Array Value} {A M : List Nat} {p : Nat} (h : Wd cs 0 A) (hl : p + M.length ≤ A.length) (hs : A.length ≤ cs.size) : Wd (putW cs p M) 0 (A.take p ++ M ++ A.drop (p + M.length)) := by
  have h1 : Wd (putW cs p M) 0 (A.take p) := (h.take p).of_put (.inl (by rw [List.length_take]; omega))
  have h2 : Wd (putW cs p M) p M := Wd.put _ _ _ (by omega)
  have h3 : Wd (putW cs p M) (0 + (p + M.length)) (A.drop (p + M.length)) := (h.drop (p + M.length)).of_put (.inr (by omega))
  refine (h1.app ?_).app ?_
  · rw [List.length_take, Nat.min_eq_left (by omega), Nat.zero_add]; exact h2
  · rw [List.length_append, List.length_take, Nat.min_eq_left (by omega)]
    exact h3

theorem mul_step (A xs out' : List Nat) (k n d c T : Nat) (hA : A.length = n + k) (ho : out'.length = n) (hv : val A = T) (h : val out' + 18446744073709551616 ^ n * c = val (A.drop k) + val xs * d + 0) :
    val (A.take k ++ out' ++ [c]) = T + val xs * (18446744073709551616 ^ k * d) := by
  have e1 := val_take_drop A k (by omega)
  rw [val_snoc, val_append, List.length_append, List.length_take, Nat.min_eq_left (by omega), ho, Nat.pow_add, Nat.mul_assoc, Nat.add_assoc, ← Nat.mul_add, h, ← hv, e1]
  grind

set_option maxHeartbeats 4000000 in
theorem basicMul_any (w : World) (g bx by' C Cx Cy Lx Ly : Nat) (cs cx cy : Array Value) (xs ys : List Nat) (hz : Blk w g 161 cs) (hcs : cs.size = C) (hC : Lx + Ly ≤ C) (hC2 : C ≤ 100000)
    (hbx : Blk w bx 161 cx) (hby : Blk w by' 161 cy) (hxs : Wd cx 0 xs) (hys : Wd cy 0 ys) (hlx : xs.length = Lx) (hly : ys.length = Ly) (hx0 : 0 < Lx) (hy0 : 0 < Ly) (hxC : Lx ≤ Cx) (hyC : Ly ≤ Cy) (hCx : Cx ≤ 100000) (hCy : Cy ≤ 100000)
    (hxl : ∀ d ∈ xs, d < 18446744073709551616) (hyl : ∀ d ∈ ys, d < 18446744073709551616) (hgx : bx ≠ g) (hgy : by' ≠ g) :
    Calls Tryz.prog 184 #[.slice (some ⟨g, 0, none⟩) (Lx + Ly) C, .slice (some ⟨bx, 0, none⟩) Lx Cx, .slice (some ⟨by', 0, none⟩) Ly Cy] w fun e w' =>
      e = .returned (.tuple #[]) ∧ ∃ Z cs', Z.length = Lx + Ly ∧ (∀ d ∈ Z, d < 18446744073709551616) ∧ val Z = val xs * val ys ∧ Blk w' g 161 cs' ∧ cs'.size = C ∧ Wd cs' 0 Z ∧ Upd [g] w w' := by
  have HLX := hide hlx
  have HLY := hide hly
  have HCS := hide hcs
  clear hlx hly hcs
  have hX := blk_cells hbx hxs
  have hY := blk_cells hby hys
  rw [HLX.out] at hX
  rw [HLY.out] at hY
  have HX := hide hX
  have HY := hide hY
  clear hX hY
  have p1 : ¬ C = 0 := by omega
  have p2 : Lx + Ly ≤ C := by omega
  have p3 : (Lx : Int) + (Ly : Int) ≤ (C : Int) := by omega
  have p4 : wrap64 ((Lx : Int) + (Ly : Int)) = (Lx : Int) + (Ly : Int) := by unfold wrap64; omega
  have p5 : ((Lx : Int) + (Ly : Int)).toNat = Lx + Ly := by omega
  go_enter Tryz.func184, Tryz.ntmps184
  go_wp2_with (with_reducible refine wpList_clear_W rfl (.tmp 14) rfl g 0 (Lx + Ly) C rfl cs hz ?h1 ?h2 ?_)
  case h1 => omega
  case h2 => rw [HCS.out]; omega
  intro w1 hb1 hu1
  go_wp2
  go_loopw [17] (fun i wr => ∃ (k : Nat) (A : List Nat) (csr : Array Value), k ≤ Ly ∧ i = .int .i64 k ∧ Hid (A.length = Lx + k) ∧ Hid (∀ d ∈ A, d < 18446744073709551616) ∧ Hid (val A = val xs * val (ys.take k)) ∧
      Blk wr g 161 csr ∧ Hid (csr.size = C) ∧ Hid (Wd csr 0 (A ++ List.replicate (Ly - k) 0)) ∧ Upd [g] w wr)
    (fun i _ => Ly - (intOf i).toNat)
  case atStart =>
    refine ⟨0, List.replicate Lx 0, _, Nat.zero_le _, rfl, by simp [Hid], ?_, by simp [Hid, val, val_zeros], hb1, ?_, ?_, hu1⟩
    · show ∀ d ∈ _, _
      intro d hd
      rw [List.eq_of_mem_replicate hd]; omega
    · show _ = _
      rw [putW_size, HCS.out]
    · show Wd _ _ _
      rw [List.replicate_append_replicate, Nat.sub_zero]
      exact Wd.put _ _ _ (by rw [List.length_replicate, HCS.out]; omega)
  case round =>
    clear hb1 hu1
    obtain ⟨k, A, csr, hk, rfl, hal, has, hv, hbr, hcr, hwr, hu⟩ := hrel
    by_cases hlt : k < Ly
    · have cyk := hu.cell (p := ⟨by', k, none⟩) hby.lt (by simpa using hgy)
      rw [HY.out k hlt] at cyk
      obtain ⟨d, hd⟩ : ∃ d, ys.getD k 0 = d := ⟨_, rfl⟩
      rw [hd] at cyk
      have hdl := getD_lt ys hyl k
      rw [hd] at hdl
      have tk : val (ys.take (k + 1)) = val (ys.take k) + 18446744073709551616 ^ k * d := by
        rw [take_succ_getD ys k (by rw [HLY.out]; exact hlt), hd, val_snoc, List.length_take, HLY.out, Nat.min_eq_left (by omega)]
      have TK := hide tk
      clear tk hd
      have b0 : (0 : Int) ≤ (k : Int) := Int.natCast_nonneg _
      have b1 : (k : Int) < (Ly : Int) := by omega
      by_cases hd0 : d = 0
      · subst hd0
        go_wp2
        go_roundw
        case rel =>
          refine ⟨k + 1, A ++ [0], csr, by omega, by go_num, ?_, mem_snoc has.out (by omega), ?_, hbr, hcr, ?_, hu⟩
          · show _ = _
            rw [List.length_append, hal.out]; rfl
          · show _ = _
            rw [val_snoc, hv.out, TK.out]; simp
          · show Wd _ _ _
            have e : A ++ [0] ++ List.replicate (Ly - (k + 1)) 0 = A ++ List.replicate (Ly - k) 0 := by
              rw [List.append_assoc, List.singleton_append, ← List.replicate_succ, show Ly - (k + 1) + 1 = Ly - k from by omega]
            rw [e]; exact hwr.out
        case measure => simp [intOf]; omega
      · have e1 : ((d : Int) != 0) = true := by rw [bne_iff_ne]; omega
        have e2 : ((d : Int) == 0) = false := beq_eq_false_iff_ne.2 (by omega)
        have hlenZ : (A ++ List.replicate (Ly - k) 0).length = Lx + Ly := by rw [List.length_append, hal.out, List.length_replicate]; omega
        have HLZ := hide hlenZ
        clear hlenZ
        have hXr : ∀ i, i < Lx → wr.cell? ⟨bx, 0 + i, none⟩ = some (W64 (xs.getD i 0)) := fun i hi => by
          have := HX.out i hi
          rw [Nat.zero_add, ← this]
          exact hu.cell (p := ⟨bx, i, none⟩) hbx.lt (by simpa using hgx)
        have hZr : ∀ i, i < Lx → wr.cell? ⟨g, k + i, none⟩ = some (W64 ((A.drop k).getD i 0)) := fun i hi => by
          have := hwr.out.get (i := k + i) (by rw [HLZ.out]; omega)
          rw [Nat.zero_add] at this
          rw [hbr.at_ this, getD_drop]
          simp only [List.getD]
          rw [List.getElem?_append_left (by rw [hal.out]; omega)]
        have hC := addMulVVWW_any wr.drew g k g k bx 0 Lx (C - k) (C - k) Cx d 0 csr (A.drop k) xs (by omega) (by rw [List.length_drop, hal.out]; omega) HLX.out hbr (by rw [hcr.out]; omega) hZr (fun _ => Nat.le_refl _)
          hXr (fun h => absurd h hgx) (fun x hx => has.out x (List.mem_of_mem_drop hx)) hxl hdl (by omega)
        have HC := hide hC
        clear hC hXr hZr
        have q1 : ¬ C = k := by omega
        have q2 : (k : Int) ≤ (k : Int) + (Lx : Int) := by omega
        have q3 : (k : Int) + (Lx : Int) ≤ (C : Int) := by omega
        have q4 : IntKind.i64.wrap ((k : Int) + (Lx : Int)) = (k : Int) + (Lx : Int) := IntWalk.i64_in _ (by omega)
        have q5 : ((k : Int) + (Lx : Int)).toNat = k + Lx := by omega
        have q6 : IntKind.i64.wrap ((Lx : Int) + (k : Int)) = (Lx : Int) + (k : Int) := IntWalk.i64_in _ (by omega)
        have q7 : ((Lx : Int) + (k : Int)).toNat = Lx + k := by omega
        have q8 : (0 : Int) ≤ (Lx : Int) + (k : Int) := by omega
        have q9 : (Lx : Int) + (k : Int) < (Lx : Int) + (Ly : Int) := by omega
        have q10 : (0 : Int) ≤ (k : Int) + (Lx : Int) := by omega
        have q11 : k + Lx - k = Lx := by omega
        have hszA : ∀ out, Lx + k < (putW csr k out).size := fun out => by rw [putW_size, hcr.out]; omega
        have HSZ := hide hszA
        clear hszA
        go_wp2_with fail
        go_region_held3 (fun w' => True) (trivial) (first | (go_at_call 225; refine HC.out.mono ?_; rintro e w2 ⟨c, out, rfl, h1, h2, h3, h4, h5, h6⟩; have H2 := hide h2; have H3 := hide h3; have H4 := hide h4; clear h2 h3 h4; have cz := h5.at_ (Array.getElem?_eq_getElem (HSZ.out out)); have fz := h5.frozen (Lx + k)))
        have hput : (putW csr k out).setIfInBounds (Lx + k) (W64 c) = putW csr k (out ++ [c]) := by rw [putW_snoc, H2.out, Nat.add_comm]
        have hb7 := h5.set_ (Lx + k) (W64 c)
        rw [hput] at hb7
        clear hput
        have hu7 : Upd [g] w (w2.setCell ⟨g, Lx + k, none⟩ (W64 c)) := (hu.trans h6.undrew (fun k hk _ => hk)).setCell (by simp) _
        have hol : (out ++ [c]).length = Lx + 1 := by rw [List.length_append, H2.out]; rfl
        have HOL := hide hol
        clear hol
        go_wp2
        go_roundw
        case rel =>
          refine ⟨k + 1, A.take k ++ out ++ [c], _, by omega, by go_num, ?_, ?_, ?_, hb7, ?_, ?_, hu7⟩
          · show _ = _
            rw [List.length_append, List.length_append, List.length_take, hal.out, H2.out, Nat.min_eq_left (by omega)]; simp; omega
          · exact mem_snoc (mem_app (fun x hx => has.out x (List.mem_of_mem_take hx)) H3.out) h1
          · show _ = _
            rw [mul_step A xs out k Lx d c _ hal.out H2.out hv.out H4.out, TK.out, Nat.mul_add]
          · show _ = _
            rw [putW_size, hcr.out]
          · show Wd _ _ _
            have hm := hwr.out.set_mid (M := out ++ [c]) (p := k) (by rw [HOL.out, HLZ.out]; omega) (by rw [HLZ.out, hcr.out]; omega)
            have e : (A ++ List.replicate (Ly - k) 0).take k ++ (out ++ [c]) ++ (A ++ List.replicate (Ly - k) 0).drop (k + (out ++ [c]).length) = A.take k ++ out ++ [c] ++ List.replicate (Ly - (k + 1)) 0 := by
              rw [HOL.out, List.take_append_of_le_length (by rw [hal.out]; omega), List.drop_append, List.drop_of_length_le (by rw [hal.out]; omega), hal.out, List.nil_append, List.drop_replicate,
                show Ly - k - (k + (Lx + 1) - (Lx + k)) = Ly - (k + 1) from by omega, ← List.append_assoc]
            rw [e] at hm
            exact hm
        case measure => simp [intOf]; omega
    · obtain rfl : k = Ly := by omega
      go_wp2
      go_end0
      refine ⟨rfl, A, csr, hal.out, has.out, ?_, hbr, hcr.out, ?_, hu⟩
      · rw [hv.out, List.take_of_length_le (by rw [HLY.out]; exact Nat.le_refl _)]
      · have := hwr.out
        simpa using this
end Go.Proofs.YtnajekpckbfcdaaGreatDoor

namespace Go.Proofs.YtnajekpckbfcdaaGreatDoor
open Go.RowKit

/-- The package-level numbers that are read, at their places. -/
structure Nums (w : World) : Prop where
  size : 15 ≤ w.heap.size
  sq : w.cell? ⟨4, 0, none⟩ = some (.int .i64 12)
  ks : w.cell? ⟨5, 0, none⟩ = some (.int .i64 80)

theorem Nums.upd {S : List Nat} {w w' : World} (h : Nums w) (hu : Upd S w w') (hs : ∀ k ∈ S, 15 ≤ k) : Nums w' :=
  ⟨Nat.le_trans h.size hu.size, (hu.cell (p := ⟨4, 0, none⟩) (by have := h.size; show 4 < _; omega) (fun hm => by have := hs _ hm; simp at this)).trans h.sq,
    (hu.cell (p := ⟨5, 0, none⟩) (by have := h.size; show 5 < _; omega) (fun hm => by have := hs _ hm; simp at this)).trans h.ks⟩

theorem NatS.zero {w : World} {Z : Option Addr} {L C : Nat} {ws : List Nat} (h : NatS w Z L C ws) : NatS w Z 0 C (wo 0) := by
  obtain ⟨h1, h2, h3, h4, h5⟩ := h
  rw [wo_zero]
  refine ⟨rfl, by simp, Nat.zero_le _, h4, ?_⟩
  rcases h5 with ⟨h6, h7, h8⟩ | ⟨b, cs, h6, h7, h8, h9, h10⟩
  · exact .inl ⟨h6, rfl, h8⟩
  · exact .inr ⟨b, cs, h6, h7, h8, h9, Wd.nil _ _⟩

theorem wo_len_one {n : Nat} (h : (wo n).length = 1) : wo n = [n] ∧ n < 18446744073709551616 ∧ n ≠ 0 := by
  have h0 : n ≠ 0 := by rintro rfl; rw [wo_zero] at h; simp at h
  have h1 := val_lt (wo n) (wo_lt n)
  rw [val_wo, h, Nat.pow_one] at h1
  exact ⟨wo_one h0 h1, h1, h0⟩

set_option maxHeartbeats 4000000 in
theorem sqr_one (w : World) (Z X : Option Addr) (S : Value) (Lz Cz Cx n : Nat) (wz : List Nat) (hZ : NatS w Z Lz Cz wz) (hX : NatS w X 1 Cx (wo n)) :
    Calls Tryz.prog 136 #[.slice Z Lz Cz, S, .slice X 1 Cx] w (NatRes w Z (n * n)) := by
  obtain ⟨hn, hnl, hn0⟩ := wo_len_one hX.1
  obtain ⟨bx, cx, rfl, hbx, hcx, hwx⟩ := hX.row (by have := hX.2.2.1; omega)
  have cx0 := hX.cells 0 (by omega)
  rw [hn] at cx0
  simp only [List.getD_cons_zero] at cx0
  have HN := hide hn
  clear hn
  go_enter Tryz.func136, Tryz.ntmps136
  go_wp2_with fail
  refine (make_any w Z Lz Cz 2 wz (by omega) hZ).mono ?_
  rintro e w1 ⟨A', C', rfl, hu, hC', hC2, hr1⟩
  rcases hr1 with ⟨_, h0, _⟩ | ⟨g, cs, rfl, hb, hcs, hC0, hbz⟩
  · omega
  have HCS := hide hcs
  clear hcs
  go_wp2_with fail
  refine (mulWW_any n n hnl hnl _).mono ?_
  rintro e w2 ⟨h, l, rfl, rfl, he, hl⟩
  have HE := hide he
  clear he
  have hs0 : 0 < cs.size := by rw [HCS.out]; omega
  have hs1 : 1 < cs.size := by rw [HCS.out]; omega
  have cz0 := hb.at_ (Array.getElem?_eq_getElem hs0)
  have cz1 := hb.at_ (Array.getElem?_eq_getElem hs1)
  have fz0 := hb.frozen 0
  have fz1 := hb.frozen 1
  have hh : h < 18446744073709551616 := by
    have h1 := mul_le64 n n hnl hnl
    have := HE.out
    omega
  go_wp2_with fail
  have hb5 := (hb.set_ 1 (W64 h)).set_ 0 (W64 l)
  have hw5 : Wd ((cs.setIfInBounds 1 (W64 h)).setIfInBounds 0 (W64 l)) 0 [l, h] := fun i hi => by
    have hi2 : i < 2 := by simpa using hi
    rcases (by omega : i = 0 ∨ i = 1) with rfl | rfl
    · rw [Array.getElem?_setIfInBounds_self_of_lt (by rw [Array.size_setIfInBounds]; exact hs0)]; rfl
    · rw [Nat.zero_add, Array.getElem?_setIfInBounds_ne (by omega), Array.getElem?_setIfInBounds_self_of_lt hs1]; rfl
  have hnb := norm_blk _ g 2 C' _ [l, h] rfl hb5 hw5 (by intro d hd; simp at hd; rcases hd with rfl | rfl <;> assumption) (by rw [Array.size_setIfInBounds, Array.size_setIfInBounds]; exact HCS.out) hC' hC0 hC2
  have hv : val [l, h] = n * n := by
    have := HE.out
    simp only [val]
    omega
  rw [hv] at hnb
  have HNB := hide hnb
  clear hnb hv
  refine HNB.out.mono ?_
  rintro e w4 ⟨k, rfl, hS, rfl⟩
  go_wp2
  go_ret
  refine ⟨_, k, C', rfl, hS, ?_, by simpa [bof] using hbz⟩
  exact hu.into (((Upd.refl [g] _).setCell (by simp) _).setCell (by simp) _) (by simp) hbz

set_option maxHeartbeats 4000000 in
theorem sqr_big (w : World) (Z X : Option Addr) (S : Value) (Lz Cz Lx Cx n : Nat) (wz : List Nat) (hZ : NatS w Z Lz Cz wz) (hX : NatS w X Lx Cx (wo n)) (h2 : 2 ≤ Lx) (h11 : Lx ≤ 11) (hne : ∀ b ∈ bof Z, b ∉ bof X) (hN : Nums w) :
    Calls Tryz.prog 136 #[.slice Z Lz Cz, S, .slice X Lx Cx] w (NatRes w Z (n * n)) := by
  have HL := hide hX.1
  have hCx1 := hX.2.2.1
  have hCx2 := hX.2.2.2.1
  have t1 : ((Lx : Int) == 0) = false := beq_eq_false_iff_ne.2 (by omega)
  have t2 : ((Lx : Int) == 1) = false := beq_eq_false_iff_ne.2 (by omega)
  have ha := alias_no w Z X Lz Cz Lx Cx wz (wo n) hZ hX hne
  have HA := hide ha
  clear ha
  go_enter Tryz.func136, Tryz.ntmps136
  go_wp2_with fail
  refine HA.out.mono ?_
  rintro e w1 ⟨rfl, q, rfl⟩
  have hZ1 := hZ.drewN q
  have hX1 := hX.drewN q
  have t3 : wrap64 (2 * (Lx : Int)) = 2 * (Lx : Int) := by unfold wrap64; omega
  have hmk := make_any (w.drewN q) Z Lz Cz (2 * Lx) wz (by omega) hZ1
  have ec : ((2 * Lx : Nat) : Int) = 2 * (Lx : Int) := by omega
  rw [ec] at hmk
  have HMK := hide hmk
  clear hmk ec
  go_wp2_with fail
  refine HMK.out.mono ?_
  rintro e w2 ⟨A', C', rfl, hu, hC', hC2, hr1⟩
  have hN2 := (hN.upd (S := []) ((Upd.refl [] w).drewN q) (by simp)).upd (w' := w2) (S := []) hu (by simp)
  have n4 := hN2.sq
  have n5 := hN2.ks
  rcases hr1 with ⟨_, h0, _⟩ | ⟨g, cs, rfl, hb, hcs, hC0, hbz⟩
  · omega
  have HCS := hide hcs
  clear hcs
  have hX2 := hX1.upd hu (by simp)
  obtain ⟨bx, cx, rfl, hbx, hcx, hwx⟩ := hX2.row (by omega)
  have hgx : bx ≠ g := by
    rintro rfl
    rcases hbz with h | h
    · exact hne _ h (by simp [bof])
    · have := hX1.lt bx (by simp [bof])
      omega
  have l1 : (Lx : Int) < 12 := by omega
  have l2 : (Lx : Int) < 80 := by omega
  have l3 : Lx < 12 := by omega
  have l4 : Lx < 80 := by omega
  have hbm := basicMul_any w2 g bx bx C' Cx Cx Lx Lx cs cx cx (wo n) (wo n) hb HCS.out (by omega) hC2 hbx hbx hwx hwx HL.out HL.out (by omega) (by omega) hCx1 hCx1 hCx2 hCx2 (wo_lt n) (wo_lt n) hgx hgx
  have e2 : Lx + Lx = 2 * Lx := by omega
  rw [e2] at hbm
  have HBM := hide hbm
  clear hbm e2
  go_wp2_with fail
  refine HBM.out.mono ?_
  rintro e w3 ⟨rfl, Zs, cs', g1, g2, g3, g4, g5, g6, g7⟩
  rw [val_wo] at g3
  have hnb := norm_blk w3 g (2 * Lx) C' cs' Zs g1 g4 g6 g2 g5 (by omega) hC0 hC2
  rw [g3] at hnb
  have HNB := hide hnb
  clear hnb g3 g1 g5
  go_wp2_with fail
  refine HNB.out.mono ?_
  rintro e w4 ⟨k, rfl, hS, rfl⟩
  go_wp2
  go_ret
  refine ⟨_, k, C', rfl, hS, ?_, by simpa [bof] using hbz⟩
  exact Upd.undrewN (hu.into g7 (by simp) hbz)

/-- sqr: z = x * x, x in fewer than 12 words, in another row than z. -/
theorem sqr_any (w : World) (Z X : Option Addr) (S : Value) (Lz Cz Lx Cx n : Nat) (wz : List Nat) (hZ : NatS w Z Lz Cz wz) (hX : NatS w X Lx Cx (wo n)) (h11 : Lx ≤ 11) (hne : ∀ b ∈ bof Z, b ∉ bof X) (hN : Nums w) :
    Calls Tryz.prog 136 #[.slice Z Lz Cz, S, .slice X Lx Cx] w (NatRes w Z (n * n)) := by
  rcases (by omega : Lx = 0 ∨ Lx = 1 ∨ 2 ≤ Lx) with rfl | rfl | h2
  · have hn : n = 0 := by
      rcases Nat.eq_zero_or_pos n with h | h
      · exact h
      · have := wo_len_pos (by omega : n ≠ 0); rw [hX.1] at this; omega
    subst hn
    have hCz := hZ.2.2.2.1
    go_enter Tryz.func136, Tryz.ntmps136
    go_wp2
    go_ret
    exact ⟨Z, 0, Cz, rfl, hZ.zero, Upd.refl _ _, fun b hb => .inl hb⟩
  · exact sqr_one w Z X S Lz Cz Cx n wz hZ hX
  · exact sqr_big w Z X S Lz Cz Lx Cx n wz hZ hX h2 h11 hne hN

/-- mul: z = x * y, y one word, x no shorter. -/
theorem mul_one (w : World) (Z X Y : Option Addr) (S : Value) (Lz Cz Lx Cx Cy n y : Nat) (wz : List Nat) (hZ : NatS w Z Lz Cz wz) (hX : NatS w X Lx Cx (wo n)) (hY : NatS w Y 1 Cy (wo y)) (h1 : 1 ≤ Lx) (hL : Lx ≤ 1000) :
    Calls Tryz.prog 137 #[.slice Z Lz Cz, S, .slice X Lx Cx, .slice Y 1 Cy] w (NatRes w Z (n * y)) := by
  obtain ⟨hy, hyl, hy0⟩ := wo_len_one hY.1
  obtain ⟨by', cy, rfl, hby, hcy, hwy⟩ := hY.row (by have := hY.2.2.1; omega)
  have cy0 := hY.cells 0 (by omega)
  rw [hy] at cy0
  simp only [List.getD_cons_zero] at cy0
  have hm := mulAddWW_any w Z X Lz Cz Lx Cx n y 0 wz hZ hX hL hyl (by omega)
  rw [Nat.add_zero] at hm
  have HM := hide hm
  clear hm hy
  have t1 : ¬ Lx < 1 := by omega
  have t2 : ¬ (Lx : Int) < 1 := by omega
  have t3 : ((Lx : Int) == 0) = false := beq_eq_false_iff_ne.2 (by omega)
  go_enter Tryz.func137, Tryz.ntmps137
  go_wp2_with fail
  refine HM.out.mono ?_
  rintro e w1 ⟨A', L', C', rfl, g1, g2, g3⟩
  go_wp2
  go_ret
  exact ⟨A', L', C', rfl, g1, g2, g3⟩

theorem mul_zero (w : World) (Z X Y : Option Addr) (S : Value) (Lz Cz Lx Cx Ly Cy n y : Nat) (wz : List Nat) (hZ : NatS w Z Lz Cz wz) (hX : NatS w X Lx Cx (wo n)) (hY : NatS w Y Ly Cy (wo y)) (hL : Ly = 0) :
    Calls Tryz.prog 137 #[.slice Z Lz Cz, S, .slice X Lx Cx, .slice Y Ly Cy] w (NatRes w Z (n * y)) := by
  subst hL
  have hy : y = 0 := by
    rcases Nat.eq_zero_or_pos y with h | h
    · exact h
    · have := wo_len_pos (by omega : y ≠ 0); rw [hY.1] at this; omega
  subst hy
  rw [Nat.mul_zero]
  have hCz := hZ.2.2.2.1
  have t1 : ¬ Lx < 0 := by omega
  have t2 : ¬ (Lx : Int) < 0 := by omega
  by_cases h0 : Lx = 0
  · subst h0
    go_enter Tryz.func137, Tryz.ntmps137
    go_wp2
    go_ret
    exact ⟨Z, 0, Cz, rfl, hZ.zero, Upd.refl _ _, fun b hb => .inl hb⟩
  · have t3 : ((Lx : Int) == 0) = false := beq_eq_false_iff_ne.2 (by omega)
    go_enter Tryz.func137, Tryz.ntmps137
    go_wp2
    go_ret
    exact ⟨Z, 0, Cz, rfl, hZ.zero, Upd.refl _ _, fun b hb => .inl hb⟩

/-- mul: z = x * y, one of the two at most a word. -/
theorem mul_any (w : World) (Z X Y : Option Addr) (S : Value) (Lz Cz Lx Cx Ly Cy n y : Nat) (wz : List Nat) (hZ : NatS w Z Lz Cz wz) (hX : NatS w X Lx Cx (wo n)) (hY : NatS w Y Ly Cy (wo y)) (hL : Lx ≤ 1000) (hM : Ly ≤ 1000) (h1 : Lx ≤ 1 ∨ Ly ≤ 1) :
    Calls Tryz.prog 137 #[.slice Z Lz Cz, S, .slice X Lx Cx, .slice Y Ly Cy] w (NatRes w Z (n * y)) := by
  by_cases hlt : Lx < Ly
  · have hsw : Calls Tryz.prog 137 #[.slice Z Lz Cz, S, .slice Y Ly Cy, .slice X Lx Cx] w (NatRes w Z (y * n)) := by
      rcases (by omega : Lx = 0 ∨ Lx = 1) with rfl | rfl
      · exact mul_zero w Z Y X S Lz Cz Ly Cy 0 Cx y n wz hZ hY hX rfl
      · exact mul_one w Z Y X S Lz Cz Ly Cy Cx y n wz hZ hY hX (by omega) hM
    rw [Nat.mul_comm] at hsw
    have HS := hide hsw
    clear hsw
    have t2 : (Lx : Int) < (Ly : Int) := by omega
    go_enter Tryz.func137, Tryz.ntmps137
    go_wp2_with fail
    refine HS.out.mono ?_
    rintro e w1 ⟨A', L', C', rfl, g1, g2, g3⟩
    go_wp2
    go_ret
    exact ⟨A', L', C', rfl, g1, g2, g3⟩
  · rcases (by omega : Ly = 0 ∨ Ly = 1) with rfl | rfl
    · exact mul_zero w Z X Y S Lz Cz Lx Cx 0 Cy n y wz hZ hX hY rfl
    · exact mul_one w Z X Y S Lz Cz Lx Cx Cy n y wz hZ hX hY (by omega) hL

end Go.Proofs.YtnajekpckbfcdaaGreatDoor
