/-
  Coins.String.
-/
import Derived.Test.YtnajekpckbfcdaaGreatDoorO4
import Derived.Test.YtnajekpckbfcdaaGreatDoorM02
import Derived.Test.YtnajekpckbfcdaaGreatDoorO6
import Derived.Test.YtnajekpckbfcdaaGreatDoorN5
set_option linter.unusedVariables false
set_option linter.unusedSimpArgs false
namespace Go.Proofs.YtnajekpckbfcdaaGreatDoor
open Go.RowKit

set_option maxRecDepth 20000 in
theorem Text_157 (w : World) (p : Nat) (A : Option Addr) (n : Nat) (h : IntV w p A n) (hn0 : n ≠ 0) (hn : n < 18446744073709551616 ^ 2) (hl : Leaf w) :
    Calls Tryz.prog 157 #[.pointer (some ⟨p, 0, none⟩), .int .i64 10] w fun e w' => e = .returned (.string (bs (pd (nd n) n))) ∧ Upd [] w w' := by
  obtain ⟨L, C, hb, hS⟩ := h
  rw [decide_eq_false (by omega)] at hb
  rw [Int.natAbs_natCast] at hS
  have hLp : 0 < L := by rw [← hS.1]; exact wo_len_pos hn0
  have hL2 : L ≤ 2 := by rw [← hS.1]; exact wo_len_le hn
  obtain ⟨M, rfl⟩ : ∃ M, L = M + 1 := ⟨L - 1, by omega⟩
  have hl2 : Leaf w.drew := hl
  have HI := hide (itoa_207 w.drew A M C n hS.drew (by omega) hl2)
  have c0 := hb.fst
  have c1 := hb.snd
  have nn := n_ptr83_nil
  clear hS hb hl hl2
  go_enter Tryz.func157, Tryz.ntmps157
  go_wp2_with fail
  refine wp_region_tail 0 9 (by kernel_rfl) (by kernel_rfl) ?_ ?_
  · intro d v c a w h; cases d <;> exact h
  simp only [List.take_succ_cons, List.take_zero, List.drop_succ_cons, List.drop_zero]
  repeat still_step
  refine wpStill_nil ?_
  change wpList _ _ _ _ _ w.drew
  go_wp2_with fail
  refine HI.out.mono ?_
  rintro e w2 ⟨g, i, I, rfl, hIi, hB, hu, hg⟩
  have hu := hu.undrew
  have hcells : ∀ j (hj : j < (pd (nd n) n).length), w2.cell? ((⟨g, i, none⟩ : Addr).add j) = some (.int .u8 ((pd (nd n) n)[j].toNat : Nat)) := fun j hj => by
    rw [addr_addo]
    have hpl := pd_len (nd n) n
    refine hB.at_ ?_
    have hlt : i + j < (pd I n).length := by rw [pd_len]; omega
    rw [bcells_get _ _ hlt]
    have hsp : (pd I n)[i + j]? = (pd (nd n) n)[j]? := by
      rw [hIi, pd_split, List.getElem?_append_right (by rw [pd_len]; omega), pd_len, Nat.add_sub_cancel_left]
    rw [List.getElem?_eq_getElem hlt, List.getElem?_eq_getElem hj] at hsp
    injection hsp with hsp
    rw [hsp]
  have hst : (convert 78 9 (.slice (some ⟨g, i, none⟩) (nd n) (nd n))).run Tryz.prog w2 = .ok (.string (bs (pd (nd n) n))) w2 := by
    have := run_convert_bytes_back (P := Tryz.prog) w2 78 9 5 ⟨g, i, none⟩ (nd n) (pd (nd n) n) Tryz.underlying78 Tryz.underlying5 Tryz.underlying9 hcells
    rw [pd_len] at this
    exact this
  clear hcells hB HI c0 c1 hIi
  go_wp2
  go_ret
  exact ⟨rfl, hu⟩

theorem BigString_115 (w : World) (p : Nat) (A : Option Addr) (n : Nat) (h : IntV w p A n) (hn0 : n ≠ 0) (hn : n < 18446744073709551616 ^ 2) (hl : Leaf w) :
    Calls Tryz.prog 115 #[.pointer (some ⟨p, 0, none⟩)] w fun e w' => e = .returned (.string (bs (tn n 1))) ∧ Upd [] w w' := by
  have ht := Text_157 w p A n h hn0 hn hl
  have e : pd (nd n) n = tn n 1 := by
    unfold tn
    have := nd_one n hn0
    rw [Nat.max_eq_right (by omega)]
  rw [e] at ht
  have HT := hide ht
  clear h hl hn hn0 ht e
  go_enter Tryz.func115, Tryz.ntmps115
  go_wp2_with fail
  refine HT.out.mono ?_
  rintro e w2 ⟨rfl, hu⟩
  go_wp2
  go_ret
  exact ⟨rfl, hu⟩
theorem IntString_85 (w : World) (p : Nat) (A : Option Addr) (n : Nat) (h : IntV w p A n) (hn0 : n ≠ 0) (hn : n < 18446744073709551616 ^ 2) (hl : Leaf w) :
    Calls Tryz.prog 85 #[DV p] w fun e w' => e = .returned (.string (bs (tn n 1))) ∧ Upd [] w w' := by
  have u1 : Upd [] w (w.alloc (.cells #[.pointer (some ⟨p, 0, none⟩)] 101)) := (Upd.refl _ _).alloc _
  have c1 := (Blk.new w 101 #[.pointer (some ⟨p, 0, none⟩)]).one
  have HT := hide (BigString_115 _ p A n (h.grow u1) hn0 hn ((u1.cell (p := ⟨12, 0, none⟩) (lt_of_cell hl) (by simp)).trans hl))
  clear h hl hn hn0
  go_enter Tryz.func85, Tryz.ntmps85
  go_upto_region 1 with (fail)
  generalize w.alloc (.cells #[.pointer (some ⟨p, 0, none⟩)] 101) = w1 at *
  go_wp2_with fail
  refine HT.out.mono ?_
  rintro e w2 ⟨rfl, hu⟩
  go_wp2
  go_ret
  exact ⟨rfl, u1.on0 hu⟩
set_option maxRecDepth 20000 in
theorem CoinString_56 (w : World) (p : Nat) (A : Option Addr) (d : List UInt8) (n : Nat) (h : IntV w p A n) (hn0 : n ≠ 0) (hn : n < 18446744073709551616 ^ 2) (hl : Leaf w) (hd : d.length ≤ 8000000) (hdt : (tn n 1).length ≤ 100) :
    Calls Tryz.prog 56 #[CV (bs d) p] w fun e w' => e = .returned (.string (bs (tn n 1 ++ d))) ∧ Upd [] w w' := by
  have u1 : Upd [] w (w.alloc (.cells #[.string (bs d), .pointer (some ⟨p, 0, none⟩)] 103)) := (Upd.refl _ _).alloc _
  have hB := Blk.new w 103 #[.string (bs d), .pointer (some ⟨p, 0, none⟩)]
  have HS := hide (fun w' (hu : Upd [] w w') => IntString_85 w' p A n (h.grow hu) hn0 hn ((hu.cell (p := ⟨12, 0, none⟩) (lt_of_cell hl) (by simp)).trans hl))
  have z1 : ((bs d).size : Int) ≤ 8388608 := by rw [bs_size]; omega
  have z2 : ((bs (tn n 1)).size : Int) ≤ 8388608 := by rw [bs_size]; omega
  have z3 : ¬ 9223372036854775807 < (bs (tn n 1)).size + (bs d).size := by rw [bs_size, bs_size]; omega
  have hj : bs (tn n 1) ++ bs d = bs (tn n 1 ++ d) := bs_append _ _
  have HJ := hide hj
  clear h hl hn hn0 hj hd hdt
  generalize bs (tn n 1 ++ d) = R at *
  generalize bs (tn n 1) = T at *
  generalize bs d = D at *
  go_enter Tryz.func56, Tryz.ntmps56
  go_upto_region 1 with (fail)
  generalize w.alloc (.cells #[.string D, .pointer (some ⟨p, 0, none⟩)] 103) = w1 at *
  have u2 := u1.drew
  have hB2 := hB.drew
  have c0 := hB2.fst
  have c1 := hB2.snd
  clear u1 hB
  go_region_held3 (fun w' => w'.cell? ⟨w.heap.size, 0, none⟩ = some (.string D) ∧ w'.cell? ⟨w.heap.size, 1, none⟩ = some (.pointer (some ⟨p, 0, none⟩)))
    (first | exact ⟨d0, d1⟩ | exact ⟨c0, c1⟩)
    (first
      | (go_at_call 85; refine (HS.out _ u2).mono ?_; rintro e w3 ⟨rfl, hu3⟩; have u3 := u2.on0 hu3; have hB3 := hB2.grow hu3; have d0 := hB3.fst; have d1 := hB3.snd))
  go_wp2
  go_ret
  exact ⟨by rw [HJ.out]; rfl, u3⟩

end Go.Proofs.YtnajekpckbfcdaaGreatDoor

namespace Go.Proofs.YtnajekpckbfcdaaGreatDoor
open Go.RowKit

theorem IntNew_84 (w : World) (a : Nat) (ha : a < 9223372036854775808) : Calls Tryz.prog 84 #[.int .i64 a] w (DecRes w (a : Int)) := by
  have HN := hide (fun w => NewInt_nat w a ha)
  clear ha
  go_enter Tryz.func84, Tryz.ntmps84
  have u1 : Upd [] w (w.alloc (.cells #[.pointer none] 101)) := (Upd.refl _ _).alloc _
  have hR := Blk.new w 101 #[.pointer none]
  go_upto_region 1 with (fail)
  generalize w.alloc (.cells #[.pointer none] 101) = w1 at *
  go_wp2_with fail
  refine (HN.out _).mono ?_
  rintro e w2 ⟨p2, A2, rfl, hI2, hu2, hp2, hA2⟩
  have u2 := u1.on0 hu2
  have hR2 := hR.grow hu2
  have hs1 := u1.size
  have r2 := hR2.one
  have f2 := hR2.frozen 0
  have hl2 := hR2.lt
  have hRl := hR.lt
  have HA := hide (fun x hx => Nat.le_trans hs1 (hA2 x hx) : ∀ x ∈ bof A2, w.heap.size ≤ x)
  clear hA2 HN
  go_wp2
  refine bodyPost_ret (v := DV p2) (by simp [results, Tryz.results84, r2, hl2, go_sem]) rfl ?_
  exact ⟨p2, A2, rfl, hI2.set_far hR2 (by decide) (by omega) _ _, u2.setCell (fun h => absurd (show w.heap.size < w.heap.size from h) (by omega)) _, by omega, HA.out⟩
set_option maxRecDepth 20000 in
set_option maxHeartbeats 1000000 in
theorem coin_55 (w : World) (d : List UInt8) (a : Nat) (ha : a < 9223372036854775808) :
    Calls Tryz.prog 55 #[.agg #[.string (bs d), .int .i64 a]] w (CoinRes w d a) := by
  have HD := hide (fun w => IntNew_84 w a ha)
  obtain ⟨D, hD⟩ : ∃ D, bs d = D := ⟨_, rfl⟩
  have HB := hide hD
  rw [hD]
  clear ha hD
  go_enter Tryz.func55, Tryz.ntmps55
  go_upto_region 1 with (fail)
  have u1 : Upd [] w ((w.alloc (.cells #[.string D, .int .i64 a] 52)).alloc (.cells #[.string ⟨#[]⟩, .pointer none] 103)) := ((Upd.refl [] w).alloc _).alloc _
  have hX := (Blk.new w 52 #[.string D, .int .i64 a]).alloc (.cells #[.string ⟨#[]⟩, .pointer none] 103)
  have hR := Blk.new (w.alloc (.cells #[.string D, .int .i64 a] 52)) 103 #[.string ⟨#[]⟩, .pointer none]
  rw [World.size_alloc] at hR
  generalize (w.alloc (.cells #[.string D, .int .i64 a] 52)).alloc (.cells #[.string ⟨#[]⟩, .pointer none] 103) = w1 at *
  have u2 := u1.drew
  have hX2 := hX.drew
  have hR2 := hR.drew
  clear u1 hX hR
  have c0 := hX2.fst
  have c1 := hX2.snd
  go_region_held3 (fun w' => w'.cell? ⟨w.heap.size, 0, none⟩ = some (.string D) ∧ w'.cell? ⟨w.heap.size, 1, none⟩ = some (.int .i64 a))
    (first | exact ⟨e0, e1⟩ | exact ⟨d0, d1⟩ | exact ⟨c0, c1⟩)
    (first
      | (go_at_call 84; refine (HD.out _).mono ?_; rintro e w3 ⟨p, A, rfl, hI3, hu3, hp3, hA3⟩; have u3 := u2.on0 hu3; have hX3 := hX2.grow hu3; have hR3 := hR2.grow hu3; have d0 := hX3.fst; have d1 := hX3.snd; have r0 := hR3.fst; have r1 := hR3.snd; have f0 := hR3.frozen 0; have f1 := hR3.frozen 1;
         have hX4 := (hX3.far (p := ⟨w.heap.size + 1, 0, none⟩) (show w.heap.size ≠ w.heap.size + 1 by omega) (.string D)).far (p := ⟨w.heap.size + 1, 1, none⟩) (show w.heap.size ≠ w.heap.size + 1 by omega) (.pointer (some ⟨p, 0, none⟩)); have e0 := hX4.fst; have e1 := hX4.snd))
  have hl2 := hR2.lt
  have hR4 := (hR3.put0 (.string D)).put1 (.pointer (some ⟨p, 0, none⟩))
  have hR3a := hR3.put0 (.string D)
  have hI4 := (hI3.set_far (g := w.heap.size + 1) hR3 (by decide) (by omega) 0 (.string D)).set_far hR3a (by decide) (by omega) 1 (.pointer (some ⟨p, 0, none⟩))
  have u4 := (u3.setCell (p := ⟨w.heap.size + 1, 0, none⟩) (fun h => absurd (show w.heap.size + 1 < w.heap.size from h) (by omega)) (.string D)).setCell (p := ⟨w.heap.size + 1, 1, none⟩) (fun h => absurd (show w.heap.size + 1 < w.heap.size from h) (by omega)) (.pointer (some ⟨p, 0, none⟩))
  generalize (w3.setCell ⟨w.heap.size + 1, 0, none⟩ (.string D)).setCell ⟨w.heap.size + 1, 1, none⟩ (.pointer (some ⟨p, 0, none⟩)) = w6 at *
  clear c0 c1 d0 d1 e0 e1 r0 r1 f0 f1
  have r0 := hR4.fst
  have r1 := hR4.snd
  have hl6 := hR4.lt
  go_wp2
  refine bodyPost_ret (v := CV D p) (by simp [results, Tryz.results55, r0, r1, hl6, go_sem]) rfl ?_
  exact ⟨p, A, by rw [HB.out], hI4, u4⟩

/-- Two cells that stand side by side. -/
theorem RdS.at2 {w : World} {A : Option Addr} {n : Nat} {xs : List Value} (h : RdS w A n xs) (h0 : 0 < n) {k : Nat} {u v : Value} (e0 : xs[k * 2]? = some u) (e1 : xs[k * 2 + 1]? = some v) :
    ∃ a, A = some a ∧ w.cell? (a.add (k * 2)) = some u ∧ w.cell? ⟨(a.add (k * 2)).block, (a.add (k * 2)).off + 1, none⟩ = some v := by
  obtain ⟨a, h1, h3⟩ := h h0
  exact ⟨a, h1, h3 _ _ e0, by rw [← addr_field _ _ 1 (by omega)]; exact h3 _ _ e1⟩
/-- What coins hands back. -/
def RowRes (w : World) (L : List (List UInt8 × Nat)) (e : Ending) (w' : World) : Prop :=
  ∃ v l2, e = .returned v ∧ w'.ownsRow w.heap.size 103 2 v l2.length (dcells l2) ∧ l2.map dm = L ∧ DVals w' l2 ∧ Upd [] w w'
set_option maxRecDepth 20000 in
set_option maxHeartbeats 4000000 in
theorem coins_37 (L : List (List UInt8 × Nat)) (A : Option Addr) (c : Nat) (hn : L.length ≤ 1000) (hm : ∀ x ∈ L, x.2 < 9223372036854775808) (w : World) (hA : RdS w A L.length (wcells L)) :
    Calls Tryz.prog 37 #[.slice A L.length c] w (RowRes w L) := by
  obtain ⟨n, hne⟩ : ∃ n, L.length = n := ⟨_, rfl⟩
  have HN := hide hne
  have HA := hide hA
  have HM := hide hm
  rw [hne] at hn HA ⊢
  obtain ⟨i0, hi, hz0, hz1, hz2⟩ := info_parts info103
  clear hm hne hA
  go_enter Tryz.func37, Tryz.ntmps37
  go_wp2_with fail
  go_loopw [3, 8] (fun v i wr => ∃ (k : Nat) (l2 : List DC), k ≤ n ∧ i = .int .i64 k ∧ wr.ownsRow w.heap.size 103 2 v l2.length (dcells l2) ∧ Hid (l2.map dm = L.take k) ∧ DVals wr l2 ∧ Upd [] w wr) (fun _ i _ => n - (intOf i).toNat)
  case atStart => exact ⟨0, [], by omega, rfl, World.ownsRow_nil _ _ _ _, rfl, fun c hc => by simp at hc, Upd.refl _ _⟩
  case round =>
    obtain ⟨k, l2, hk, rfl, hown, hmap, hv2, hu⟩ := hrel
    have HOWN := hide hown
    clear hown
    rcases (by omega : k < n ∨ k = n) with hlt | rfl
    · have hkl : k < L.length := by have := HN.out; omega
      obtain ⟨e0, e1⟩ := wcells_get L k hkl
      obtain ⟨ad, rfl, c0, c1⟩ := (HA.out.grow hu).at2 (by omega) e0 e1
      have hmx := HM.out L[k] (List.getElem_mem _)
      have htk : L.take (k + 1) = L.take k ++ [L[k]] := List.take_succ_eq_append_getElem hkl
      have hl2 : l2.length ≤ 1000 := by
        have h1 := congrArg List.length hmap.out
        rw [List.length_map, List.length_take] at h1
        omega
      have s1 : (k : Int) < (n : Int) := by omega
      have HTK := hide htk
      clear htk e0 e1
      generalize L[k] = x at *
      obtain ⟨d, m⟩ := x
      dsimp only at c0 c1 hmx
      have HC := hide (fun w => coin_55 w d m hmx)
      clear hmx
      have u2 := hu.alloc (.cells #[.string (bs d), .int .i64 m] 52)
      have U2 := (Upd.refl [] wr).alloc (.cells #[.string (bs d), .int .i64 m] 52)
      have hT2 := Blk.new wr 52 #[.string (bs d), .int .i64 m]
      have HO2 := hide (HOWN.out.alloc (.cells #[.string (bs d), .int .i64 m] 52))
      have hV2 := hv2.grow U2
      clear HOWN hu hv2
      go_upto_region 5 with (fail)
      clear c0 c1
      obtain ⟨Y, hY⟩ : ∃ Y, wr.heap.size = Y := ⟨_, rfl⟩
      rw [hY] at hT2 ⊢
      generalize wr.alloc (.cells #[.string (bs d), .int .i64 m] 52) = w2 at *
      clear hY
      have y0 := hT2.fst
      have y1 := hT2.snd
      go_wp2_with fail
      refine (HC.out _).mono ?_
      rintro e w3 ⟨p1, A1, rfl, hI1, hu3⟩
      have u3 := u2.on0 hu3
      have HO3 := hide (own_grow HO2.out hu3)
      have HV3 := hide ((hV2.grow hu3).append (DVals.one (d := d) hI1))
      have hwb := u3.size
      clear HC HO2 u2 U2 hT2 y0 y1 hu3 hV2 hI1
      go_wp2_with (first
        | (at_builtin; refine wpList_append_own _ rfl _ _ 67 rfl w.heap.size 103 i0 (.agg #[.string ⟨#[]⟩, .pointer none]) 2 24 Tryz.underlying67 hi hz0 hz1 hz2 rfl (by decide) _ _ _ rfl (HO3.out.alloc _) ⟨w3.heap.size, 0, none⟩ 1 1 [.string (bs d), .pointer (some ⟨p1, 0, none⟩)] rfl rfl ?d1 ?d2 ?d3 ?d4 ?d5 ?_)
        | fail)
      case d1 =>
        intro j u hj
        match j, hj with
        | 0, hj => simp at hj; subst hj; simp [Addr.add]
        | 1, hj => simp at hj; subst hj; simp [Addr.add]
        | j + 2, hj => simp at hj
      case d2 =>
        intro u hu
        simp at hu
        rcases hu with rfl | rfl <;> rfl
      case d3 => unfold maxLen; omega
      case d4 => omega
      case d5 => simp; omega
      intro v' w6 hown' hgrow _
      have u6 : Upd [] w w6 := Upd.of_below ((Below.alloc (u3.below (Nat.le_refl _) (by simp)) hwb _).grown hgrow (by simp; omega) (fun k hk => (World.ownsRow.lt HO3.out k hk).1)) []
      have hv6 : DVals w6 (l2 ++ [⟨d, m, p1⟩]) := (HV3.out.grow ((Upd.refl [] w3).alloc _)).own (HO3.out.alloc _) hgrow
      have ho6 : w6.ownsRow w.heap.size 103 2 v' (l2 ++ [(⟨d, m, p1⟩ : DC)]).length (dcells (l2 ++ [(⟨d, m, p1⟩ : DC)])) := by
        rw [dcells_append, List.length_append]; exact hown'
      have hmap' : (l2 ++ [(⟨d, m, p1⟩ : DC)]).map dm = L.take (k + 1) := by
        rw [HTK.out, List.map_append, hmap.out, List.map_cons, List.map_nil]; rfl
      have HO6 := hide ho6
      have HM6 := hide hmap'
      clear ho6 hown' hgrow HO3 u3 hmap' HV3
      go_wp2
      go_roundw
      case rel => exact ⟨k + 1, l2 ++ [⟨d, m, p1⟩], by omega, by go_num, HO6.out, HM6, hv6, u6⟩
      case measure => first | (simp [intOf]; done) | (simp [intOf]; omega)
    · have s1 : ¬ (k : Int) < (k : Int) := by omega
      have hlk : L.take k = L := List.take_of_length_le (by have := HN.out; omega)
      rw [hlk] at hmap
      go_wp2
      go_ret
      exact ⟨_, l2, rfl, HOWN.out, hmap.out, hv2, hu⟩

end Go.Proofs.YtnajekpckbfcdaaGreatDoor

namespace Go.Proofs.YtnajekpckbfcdaaGreatDoor
open Go.RowKit

/-- A coin's text. -/
def cText (x : List UInt8 × Nat) : List UInt8 := tn x.2 1 ++ x.1
theorem ends_join' (l : List (List UInt8)) (x : List UInt8) : ends l ++ x = joinC 44 (l ++ [x]) := by
  have h := ends_join (l ++ [x]) (by simp)
  rw [ends_snoc, ← List.append_assoc] at h
  exact List.append_cancel_right h
theorem builder_grow {w w' : World} {B b : Nat} {p : Value} {xs : List Value} (h : Lib.BuilderAt 111 5 B b p xs w) (hu : Upd [] w w') : Lib.BuilderAt 111 5 B b p xs w' := by
  have hlt := h.lt
  obtain ⟨hB, v, hb, hown, hne⟩ := h
  exact ⟨hB, v, (hu.block b hlt (by simp)).trans hb, own_grow hown hu, hne⟩
theorem builder_is_grow {w w' : World} {B b : Nat} {xs : List Value} (h : Lib.IsBuilder 111 5 B b xs w) (hu : Upd [] w w') : Lib.IsBuilder 111 5 B b xs w' := h.imp (fun h => builder_grow h hu) (fun h => builder_grow h hu)
theorem byteCells_append (a b : List UInt8) : Lib.byteCells a ++ Lib.byteCells b = Lib.byteCells (a ++ b) := by simp [Lib.byteCells]
theorem upd_below {w w1 w2 : World} (h : Upd [] w w1) (hb : Below w.heap.size w1 w2) : Upd [] w w2 := Upd.of_below (h.nil.trans hb) []

set_option maxRecDepth 20000 in
set_option maxHeartbeats 4000000 in
theorem CoinsString_38 (l : List DC) (base : Nat) (A : Value) (hn : l.length ≤ 1000) (hm : ∀ x ∈ l, x.m ≠ 0 ∧ x.m < 10 ^ 18 ∧ x.d.length ≤ 200) (w : World) (hA : w.ownsRow base 103 2 A l.length (dcells l)) (hv : DVals w l) (hl : Leaf w) :
    Calls Tryz.prog 38 #[A] w fun e w' => e = .returned (.string (bs (joinC 44 ((l.map dm).map cText)))) ∧ Upd [] w w' := by
  rcases Nat.eq_zero_or_pos l.length with h0 | h0
  · have hl0 : l = [] := List.length_eq_zero_iff.1 h0
    subst hl0
    obtain ⟨a, c, rfl, _⟩ := own_slice hA
    simp only [List.length_nil]
    clear hA hm hv hn h0 hl
    go_enter Tryz.func38, Tryz.ntmps38
    go_wp2
    go_ret
    exact ⟨rfl, Upd.refl _ _⟩
  obtain ⟨g, cap, rfl, hcell⟩ := own_crow hA rfl h0
  have hgl : g < w.heap.size := lt_of_cell (hcell 0 h0).1
  have hcap : l.length ≤ cap := by
    obtain ⟨a, c, h, hc⟩ := own_slice hA
    injection h with h1 h2 h3
    omega
  have hstr : ∀ (k : Nat) (hk : k < l.length) (w' : World), Upd [] w w' → Calls Tryz.prog 56 #[CV (bs l[k].d) l[k].q] w' fun e w'' => e = .returned (.string (bs (tn l[k].m 1 ++ l[k].d))) ∧ Upd [] w' w'' := fun k hk w' hu => by
    obtain ⟨A, hI⟩ := (hv.grow hu) l[k] (List.getElem_mem _)
    obtain ⟨h1, h2, h3⟩ := hm l[k] (List.getElem_mem _)
    exact CoinString_56 w' l[k].q A l[k].d l[k].m hI h1 (Nat.lt_trans h2 (by decide)) ((hu.cell (p := ⟨12, 0, none⟩) (lt_of_cell hl) (by simp)).trans hl) (by omega) (by
      have := nd_le 18 _ h2
      unfold tn
      rw [pd_len]; omega)
  obtain ⟨tx, htx⟩ : ∃ tx : List (List UInt8), (l.map dm).map cText = tx := ⟨_, rfl⟩
  have htl : tx.length = l.length := by rw [← htx]; simp
  have hmap : ∀ (k : Nat) (hk : k < l.length) (hk' : k < tx.length), tx[k] = tn l[k].m 1 ++ l[k].d := by
    intro k hk hk'
    subst htx
    simp [cText, dm]
  have hlen : ∀ k, (ends (tx.take k)).length ≤ 238000 := by
    intro k
    have h1 := ends_len 237 (tx.take k) (by
      intro u hu
      have := List.mem_of_mem_take hu
      rw [← htx, List.map_map] at this
      obtain ⟨x, hx, rfl⟩ := List.mem_map.1 this
      obtain ⟨h1, h2, h3⟩ := hm x hx
      have := nd_le 18 _ h2
      show (tn x.m 1 ++ x.d).length ≤ _
      unfold tn
      rw [List.length_append, pd_len]; omega)
    have h2 : (tx.take k).length ≤ 1000 := by rw [List.length_take]; omega
    omega
  have hlx : ∀ (k : Nat) (hk : k < l.length), (bs (tn l[k].m 1 ++ l[k].d)).size ≤ 300 := fun k hk => by
    obtain ⟨h1, h2, h3⟩ := hm l[k] (List.getElem_mem _)
    have := nd_le 18 _ h2
    rw [bs_size, List.length_append]
    unfold tn
    rw [pd_len]; omega
  have HLEN := hide hlen
  have HTL := hide htl
  have HMAP := hide hmap
  have HSTR := hide hstr
  have HC := hide hcell
  have HLX := hide hlx
  obtain ⟨n, hne⟩ : ∃ n, l.length = n := ⟨_, rfl⟩
  have HN := hide hne
  rw [htx]
  rw [hne] at hn h0 hcap ⊢
  clear hne hA hm hlen htl hmap htx hstr hcell hlx hv hl
  rcases (by omega : n = 1 ∨ 2 ≤ n) with rfl | h2n
  · have hk0 : 0 < l.length := by have := HN.out; omega
    obtain ⟨c0, c1⟩ := HC.out 0 hk0
    have HS := hide (HSTR.out 0 hk0 w (Upd.refl _ _))
    have hj : tn l[0].m 1 ++ l[0].d = joinC 44 tx := by
      have h := HMAP.out 0 hk0 (by have := HTL.out; omega)
      rw [← h]
      match tx, HTL.out, HN.out with
      | [x], _, _ => rfl
      | [], h1, h2 => simp at h1; omega
      | _ :: _ :: _, h1, h2 => simp at h1; omega
    rw [hj] at HS
    clear hj HSTR HMAP HC HLEN HLX HTL
    generalize l[0] = x at *
    go_enter Tryz.func38, Tryz.ntmps38
    go_wp2_with fail
    refine HS.out.mono ?_
    rintro e w2 ⟨rfl, hu⟩
    go_wp2
    go_ret
    exact ⟨rfl, hu⟩
  · obtain ⟨m, rfl⟩ : ∃ m, n = m + 1 := ⟨n - 1, by omega⟩
    have t1 : ((m : Int) + 1 == 1) = false := by simp; omega
    have t2 : ((m : Int) + 1 == 0) = false := by simp; omega
    have t3 : (0 : Int) ≤ (m : Int) := by omega
    have t4 : (m : Int) ≤ (cap : Int) := by omega
    have t5 : (m : Int) < (m : Int) + 1 := by omega
    go_enter Tryz.func38, Tryz.ntmps38
    go_upto_region 6 with (fail)
    have u1 : Upd [] w (w.alloc (.cells #[.pointer none, .slice none 0 0] 111)) := (Upd.refl [] w).alloc _
    have hb1 : Lib.IsBuilder 111 5 w.heap.size w.heap.size (Lib.byteCells []) (w.alloc (.cells #[.pointer none, .slice none 0 0] 111)) :=
      .inl ⟨Nat.le_refl _, .slice none 0 0, Blk.new w 111 #[.pointer none, .slice none 0 0], World.ownsRow_nil _ _ _ _, by simp [Value.ownBlock]⟩
    generalize w.alloc (.cells #[.pointer none, .slice none 0 0] 111) = w1 at *
    go_wp2_with fail
    go_loopw [22] (fun i wr => ∃ k : Nat, k ≤ m ∧ i = .int .i64 k ∧ Hid (Lib.IsBuilder 111 5 w.heap.size w.heap.size (Lib.byteCells (ends (tx.take k))) wr) ∧ Upd [] w wr) (fun i _ => m - (intOf i).toNat)
    case atStart => exact ⟨0, by omega, rfl, hb1, u1⟩
    case round =>
      clear hb1 u1
      obtain ⟨k, hk, rfl, hbd, hu⟩ := hrel
      rcases (by omega : k < m ∨ k = m) with hlt | rfl
      · have hkl : k < l.length := by have := HN.out; omega
        have hkt : k < tx.length := by have := HN.out; have := HTL.out; omega
        have c0 := (hu.cell (p := ⟨g, k * 2, none⟩) hgl (by simp)).trans (HC.out k hkl).1
        have c1 := (hu.cell (p := ⟨g, k * 2 + 1, none⟩) hgl (by simp)).trans (HC.out k hkl).2
        have HS := hide (HSTR.out k hkl)
        have hsz := HLX.out k hkl
        have htk : ends (tx.take (k + 1)) = ends (tx.take k) ++ ((tn l[k].m 1 ++ l[k].d) ++ [44]) := by
          rw [List.take_succ_eq_append_getElem hkt, ends_snoc, HMAP.out k hkl hkt]
        have hez := HLEN.out k
        have s1 : (k : Int) < (m : Int) := by omega
        generalize l[k] = x at *
        obtain ⟨T, hT⟩ : ∃ T, tn x.m 1 ++ x.d = T := ⟨_, rfl⟩
        rw [hT] at HS htk hsz
        obtain ⟨E, hE⟩ : ∃ E, ends (tx.take k) = E := ⟨_, rfl⟩
        rw [hE] at htk hez hbd
        have HTK := hide htk
        have HEZ := hide hez
        have HSZ := hide hsz
        clear hT hE htk hez hsz
        have u2 := hu.alloc (.cells #[.string (bs x.d), .pointer (some ⟨x.q, 0, none⟩)] 103)
        have U2 := (Upd.refl [] wr).alloc (.cells #[.string (bs x.d), .pointer (some ⟨x.q, 0, none⟩)] 103)
        have hT2 := Blk.new wr 103 #[.string (bs x.d), .pointer (some ⟨x.q, 0, none⟩)]
        have HB2 := hide (builder_is_grow hbd.out U2)
        clear hbd hu U2
        go_upto_region 9 with (fail)
        clear c0 c1
        obtain ⟨Y, hY⟩ : ∃ Y, wr.heap.size = Y := ⟨_, rfl⟩
        rw [hY] at hT2 ⊢
        generalize wr.alloc (.cells #[.string (bs x.d), .pointer (some ⟨x.q, 0, none⟩)] 103) = w2 at *
        clear hY
        have y0 := hT2.fst
        have y1 := hT2.snd
        go_wp2_with fail
        refine (HS.out _ u2).mono ?_
        rintro e w3 ⟨rfl, hu3⟩
        have u3 := u2.on0 hu3
        have HB3 := hide (builder_is_grow HB2.out hu3)
        clear HS HB2 u2 hT2 y0 y1 hu3
        go_wp2_with fail
        refine (Tryz.Builder_WriteString w.heap.size w.heap.size (Lib.byteCells E) (bs T) w3 HB3.out (by have := HEZ.out; have := HSZ.out; rw [Lib.byteCells_length]; omega) u3.size).mono ?_
        rintro e w4 ⟨rfl, hb4, hw4⟩
        have u4 := upd_below u3 hw4
        have e4 : Lib.byteCells E ++ Lib.strCells (bs T) = Lib.byteCells (E ++ T) := byteCells_append E T
        rw [e4] at hb4
        have HB4 := hide hb4
        clear HB3 hb4 hw4 u3 e4
        go_wp2_with fail
        refine (Tryz.Builder_WriteByte w.heap.size w.heap.size (Lib.byteCells (E ++ T)) 44 w4 (.inr HB4.out) (by have := HEZ.out; have := HSZ.out; rw [bs_size] at this; rw [Lib.byteCells_length, List.length_append]; omega) u4.size).mono ?_
        rintro e w5 ⟨rfl, hb5, hw5⟩
        have u5 := upd_below u4 hw5
        have hb6 : Lib.IsBuilder 111 5 w.heap.size w.heap.size (Lib.byteCells (ends (tx.take (k + 1)))) w5 := by
          have e5 : Lib.byteCells (E ++ T) ++ [.int .u8 44] = Lib.byteCells (E ++ (T ++ [44])) := by
            rw [← List.append_assoc]; exact byteCells_append (E ++ T) [44]
          rw [HTK.out, ← e5]
          exact .inr hb5
        have HB6 := hide hb6
        clear HB4 hb5 hw5 u4 hb6
        go_wp2
        go_roundw
        case rel => exact ⟨k + 1, by omega, by go_num, HB6, u5⟩
        case measure => first | (simp [intOf]; done) | (simp [intOf]; omega)
      · have s1 : ¬ (k : Int) < (k : Int) := by omega
        have hkl : k < l.length := by have := HN.out; omega
        have hkt : k < tx.length := by have := HN.out; have := HTL.out; omega
        have c0 := (hu.cell (p := ⟨g, k * 2, none⟩) hgl (by simp)).trans (HC.out k hkl).1
        have c1 := (hu.cell (p := ⟨g, k * 2 + 1, none⟩) hgl (by simp)).trans (HC.out k hkl).2
        have HS := hide (HSTR.out k hkl)
        have hsz := HLX.out k hkl
        have hez := HLEN.out k
        have htk : ends (tx.take k) ++ (tn l[k].m 1 ++ l[k].d) = joinC 44 tx := by
          rw [ends_join', ← HMAP.out k hkl hkt, ← List.take_succ_eq_append_getElem hkt, List.take_of_length_le (by have := HN.out; have := HTL.out; omega)]
        generalize l[k] = x at *
        obtain ⟨T, hT⟩ : ∃ T, tn x.m 1 ++ x.d = T := ⟨_, rfl⟩
        rw [hT] at HS htk hsz
        obtain ⟨E, hE⟩ : ∃ E, ends (tx.take k) = E := ⟨_, rfl⟩
        rw [hE] at htk hez hbd
        have HTK := hide htk
        have HEZ := hide hez
        have HSZ := hide hsz
        clear hT hE htk hez hsz
        go_upto_region 12 with (fail)
        go_wp2_with fail
        refine (HS.out _ hu).mono ?_
        rintro e w3 ⟨rfl, hu3⟩
        have u3 := hu.on0 hu3
        have HB3 := hide (builder_is_grow hbd.out hu3)
        clear HS hbd hu c0 c1 hu3
        go_wp2_with fail
        refine (Tryz.Builder_WriteString w.heap.size w.heap.size (Lib.byteCells E) (bs T) w3 HB3.out (by have := HEZ.out; have := HSZ.out; rw [Lib.byteCells_length]; omega) u3.size).mono ?_
        rintro e w4 ⟨rfl, hb4, hw4⟩
        have u4 := upd_below u3 hw4
        have e4 : Lib.byteCells E ++ Lib.strCells (bs T) = Lib.byteCells (joinC 44 tx) := by rw [← HTK.out]; exact byteCells_append E T
        rw [e4] at hb4
        have HB4 := hide hb4
        clear HB3 hb4 hw4 u3 e4
        go_wp2_with fail
        refine (Tryz.Builder_String_any w.heap.size w.heap.size (joinC 44 tx) w4 (.inr HB4.out) u4.size).mono ?_
        rintro e w5 ⟨rfl, hw5⟩
        have u5 := upd_below u4 hw5
        go_wp2
        go_ret
        exact ⟨rfl, u5⟩

theorem TextOf_21 (L : List (List UInt8 × Nat)) (A : Option Addr) (c : Nat) (hn : L.length ≤ 1000) (hm : ∀ x ∈ L, x.2 ≠ 0 ∧ x.2 < 10 ^ 18 ∧ x.1.length ≤ 200) (w : World) (hA : RdS w A L.length (wcells L)) (hl : Leaf w) :
    Calls Tryz.prog 21 #[.slice A L.length c] w fun e w' => e = .returned (.string (bs (joinC 44 (L.map cText)))) ∧ Upd [] w w' := by
  have HC := hide (coins_37 L A c hn (fun x hx => Nat.lt_trans (hm x hx).2.1 (by decide)) w hA)
  have HM := hide hm
  have HL := hide hn
  clear hn hm hA
  go_enter Tryz.func21, Tryz.ntmps21
  go_wp2_with fail
  refine HC.out.mono ?_
  rintro e w2 ⟨v, l2, rfl, hown, hmap, hv, hu⟩
  have hl2 : l2.length = L.length := by rw [← hmap, List.length_map]
  have hS := CoinsString_38 l2 w.heap.size v (by rw [hl2]; exact HL.out) (fun x hx => by
    have := HM.out (dm x) (by rw [← hmap]; exact List.mem_map.2 ⟨x, hx, rfl⟩)
    exact this) w2 hown hv ((hu.cell (p := ⟨12, 0, none⟩) (lt_of_cell hl) (by simp)).trans hl)
  rw [hmap] at hS
  have HS := hide hS
  clear hS hown hmap hl2 hv
  go_wp2_with fail
  refine HS.out.mono ?_
  rintro e w3 ⟨rfl, hu3⟩
  go_wp2
  go_ret
  exact ⟨rfl, hu.on0 hu3⟩

end Go.Proofs.YtnajekpckbfcdaaGreatDoor

namespace Go.Proofs.YtnajekpckbfcdaaGreatDoor
open Go.RowKit

/-- A coin as the statement's data hold it. -/
structure CC where
  d : List UInt8
  a : Int
def jcells : List CC → List Value
  | [] => []
  | c :: r => .string (bs c.d) :: .int .i64 c.a :: jcells r
theorem jcells_get : ∀ (L : List CC) (k : Nat) (h : k < L.length), (jcells L)[k * 2]? = some (.string (bs L[k].d)) ∧ (jcells L)[k * 2 + 1]? = some (.int .i64 L[k].a)
  | [], k, h => by simp at h
  | c :: r, 0, _ => ⟨rfl, rfl⟩
  | c :: r, k + 1, h => by
    have := jcells_get r k (by simpa using h)
    rw [show (k + 1) * 2 = k * 2 + 2 by omega, show k * 2 + 2 + 1 = (k * 2 + 1) + 2 by omega]
    exact this

theorem zzFits6_36 (d : List UInt8) (a : Int) (w : World) :
    Calls Tryz.prog 36 #[.agg #[.string (bs d), .int .i64 a]] w (BoolRes w (d.length ≤ 2147483647)) := by
  have u1 : Upd [] w (w.alloc (.cells #[.string (bs d), .int .i64 a] 52)) := (Upd.refl _ _).alloc _
  have z := bs_size d
  have hcs : ((bs d).size : Int) ≤ 2147483647 ∨ (2147483647 : Int) < ((bs d).size : Int) := by omega
  have HZ := hide z
  clear z
  generalize bs d = D at *
  rcases hcs with h | h
  · have h' : ¬ (2147483647 : Int) < (D.size : Int) := by omega
    have HL := hide ((by have := HZ.out; omega) : d.length ≤ 2147483647)
    go_enter Tryz.func36, Tryz.ntmps36
    go_wp2
    go_ret
    exact ⟨true, rfl, fun _ => HL.out, u1⟩
  · go_enter Tryz.func36, Tryz.ntmps36
    go_wp2
    go_ret
    exact ⟨false, rfl, (fun h => by cases h), u1⟩

set_option maxRecDepth 20000 in
set_option maxHeartbeats 1000000 in
theorem zzFits5_20 (L : List CC) (A : Option Addr) (c : Nat) (w : World) (hA : RdS w A L.length (jcells L)) :
    Calls Tryz.prog 20 #[.slice A L.length c] w (BoolRes w (L.length ≤ 2147483647 ∧ ∀ x ∈ L, x.d.length ≤ 2147483647)) := by
  obtain ⟨n, hne⟩ : ∃ n, L.length = n := ⟨_, rfl⟩
  have HN := hide hne
  have HA := hide hA
  rw [hne] at HA ⊢
  clear hne hA
  rcases (by omega : (2147483647 : Int) < (n : Int) ∨ ¬ (2147483647 : Int) < (n : Int)) with hb | hb
  · go_enter Tryz.func20, Tryz.ntmps20
    go_wp2
    go_ret
    exact ⟨false, rfl, (fun h => by cases h), Upd.refl _ _⟩
  have hn : n ≤ 2147483647 := by omega
  go_enter Tryz.func20, Tryz.ntmps20
  go_wp2_with fail
  go_loopw [10] (fun i wr => ∃ k : Nat, k ≤ n ∧ i = .int .i64 k ∧ Hid (∀ x ∈ L.take k, x.d.length ≤ 2147483647) ∧ Upd [] w wr) (fun i _ => n - (intOf i).toNat)
  case atStart => exact ⟨0, by omega, rfl, fun x hx => by simp at hx, Upd.refl _ _⟩
  case round =>
    obtain ⟨k, hk, rfl, hall, hu⟩ := hrel
    rcases (by omega : k < n ∨ k = n) with hlt | rfl
    · have hkl : k < L.length := by have := HN.out; omega
      obtain ⟨e0, e1⟩ := jcells_get L k hkl
      obtain ⟨ad, rfl, c0, c1⟩ := (HA.out.grow hu).at2 (by omega) e0 e1
      have htk : L.take (k + 1) = L.take k ++ [L[k]] := List.take_succ_eq_append_getElem hkl
      have HTK := hide htk
      have s1 : (k : Int) < (n : Int) := by omega
      clear htk e0 e1
      generalize L[k] = x at *
      obtain ⟨d, a⟩ := x
      dsimp only at c0 c1
      have u2 := hu.alloc (.cells #[.string (bs d), .int .i64 a] 52)
      have hT2 := Blk.new wr 52 #[.string (bs d), .int .i64 a]
      have HF := hide (fun w => zzFits6_36 d a w)
      clear hu
      generalize bs d = D at *
      go_upto_region 6 with (fail)
      clear c0 c1
      obtain ⟨Y, hY⟩ : ∃ Y, wr.heap.size = Y := ⟨_, rfl⟩
      rw [hY] at hT2 ⊢
      generalize wr.alloc (.cells #[.string D, .int .i64 a] 52) = w2 at *
      clear hY
      have y0 := hT2.fst
      have y1 := hT2.snd
      go_wp2_with fail
      refine (HF.out _).mono ?_
      rintro e w3 ⟨r, rfl, hr, hu3⟩
      have u3 := u2.on0 hu3
      clear HF u2 hT2 y0 y1 hu3
      cases r with
      | false =>
        clear hr
        go_wp2
        go_ret
        exact ⟨false, rfl, (fun h => by cases h), u3⟩
      | true =>
        have hall' : ∀ x ∈ L.take (k + 1), x.d.length ≤ 2147483647 := by
          rw [HTK.out]
          intro x hx
          rcases List.mem_append.1 hx with hx | hx
          · exact hall.out x hx
          · rw [List.mem_singleton.1 hx]; exact hr rfl
        have HALL := hide hall'
        clear hr hall' hall
        go_wp2
        go_roundw
        case rel => exact ⟨k + 1, by omega, by go_num, HALL, u3⟩
        case measure => first | (simp [intOf]; done) | (simp [intOf]; omega)
    · have s1 : ¬ (k : Int) < (k : Int) := by omega
      have hlk : L.take k = L := List.take_of_length_le (by have := HN.out; omega)
      rw [hlk] at hall
      go_wp2
      go_ret
      exact ⟨true, rfl, (fun _ => hall.out), hu⟩

/-- A coin's text as a part. -/
def intPart (x : List UInt8 × Nat) : Part := ⟨[], tn (x.2 / 1000000000000000000) 1, false, [], [], x.1, []⟩
theorem intPart_text (x : List UInt8 × Nat) : (intPart x).text = cText (wh x) := by
  unfold intPart Part.text Part.num cText wh
  simp
theorem intPart_ok {x : List UInt8 × Nat} (hd : isDen x.1 = true) (hx : x.2 < 10 ^ 36) : (intPart x).Ok := by
  have h1 : x.2 / 1000000000000000000 < 10 ^ 18 := Nat.div_lt_of_lt_mul (by rw [show 1000000000000000000 * 10 ^ 18 = 10 ^ 36 by decide]; exact hx)
  have h2 := tn_len1 _ 18 h1 (by omega)
  exact plain_ok hd (tn_dg _ _) (by simp) (by omega) (by simp) (by rw [tn_dv]; exact h1) (fun _ => rfl)
theorem intPart_rd {x : List UInt8 × Nat} (hd : isDen x.1 = true) (hx : x.2 < 10 ^ 36) (h0 : x.2 % 1000000000000000000 = 0) : (intPart x).rd = some x := by
  have h1 : x.2 / 1000000000000000000 < 10 ^ 18 := Nat.div_lt_of_lt_mul (by rw [show 1000000000000000000 * 10 ^ 18 = 10 ^ 36 by decide]; exact hx)
  have h2 := tn_len1 _ 18 h1 (by omega)
  have hw : (tn (x.2 / 1000000000000000000) 1).isEmpty = false := by
    cases h : tn (x.2 / 1000000000000000000) 1 with
    | nil => rw [h] at h2; simp at h2
    | cons a r => rfl
  have he : (intPart x).expr = true := by
    unfold Part.expr intPart
    simp only [hw, hd]
    rfl
  have ha : (intPart x).amt = true := by
    unfold Part.amt intPart
    simp only [hw]
    rfl
  unfold Part.rd
  rw [he, ha]
  have hdv : dv (intPart x).digits = x.2 := by
    unfold Part.digits intPart
    simp only [List.length_nil, Nat.sub_zero, List.nil_append]
    rw [dv_append, List.length_replicate, tn_dv, show dv (List.replicate 18 48) = 0 by decide]
    have := Nat.div_add_mod x.2 1000000000000000000
    rw [show (10 : Nat) ^ 18 = 1000000000000000000 by decide]
    omega
  simp only [Bool.and_self, if_true, hdv]
  rfl

/-- ParseCoins of the text of coins that are right. -/
theorem ParseCoins_back (cs : List (List UInt8 × Nat)) (hok : ∀ x ∈ cs, isDen x.1 = true ∧ x.2 ≠ 0 ∧ x.2 < 10 ^ 36 ∧ x.2 % 1000000000000000000 = 0) (hs : StrictC cs) (h12 : cs.length ≤ 12) (w : World) (hG : Gl w) :
    Calls Tryz.prog 12 #[.slice none 0 0, .string (bs (joinC 44 ((cs.map wh).map cText)))] w fun e w' => ∃ v, e = .returned (.tuple #[v, .string ⟨#[]⟩]) ∧ w'.ownsRow w.heap.size 52 2 v cs.length (wcells (cs.map wh)) ∧ Upd [] w w' := by
  by_cases hne : cs = []
  · subst hne
    refine (ParseCoins_blank [] trim_nil (by simp) w).mono ?_
    rintro e w' ⟨rfl, hu⟩
    exact ⟨_, rfl, World.ownsRow_nil _ _ _ _, hu⟩
  · have hps : ∀ p ∈ cs.map intPart, p.Ok := by
      intro p hp
      obtain ⟨x, hx, rfl⟩ := List.mem_map.1 hp
      exact intPart_ok (hok x hx).1 (hok x hx).2.2.1
    have htx : (cs.map wh).map cText = (cs.map intPart).map Part.text := by
      rw [List.map_map, List.map_map]
      exact List.map_congr_left (fun x _ => (intPart_text x).symm)
    have hpn : cs.map intPart ≠ [] := by simpa using hne
    have hJ : (spl 44 (joinC 44 ((cs.map wh).map cText))).map trim = (cs.map intPart).map Part.core := by
      rw [htx]; exact pieces_text _ hps hpn
    have hll : (joinC 44 ((cs.map wh).map cText)).length ≤ 10000 := by
      have h1 := joinC_len 44 214 ((cs.map wh).map cText) (by
        rw [htx]
        intro l hl
        obtain ⟨p, hp, rfl⟩ := List.mem_map.1 hl
        exact (hps p hp).text_len)
      rw [List.length_map, List.length_map] at h1
      omega
    have htn : trim (joinC 44 ((cs.map wh).map cText)) ≠ [] := by
      match cs, hne, hps with
      | [x], _, hps =>
        show trim (cText (wh x)) ≠ []
        rw [← intPart_text, (hps (intPart x) (by simp)).trim_text]
        intro e
        have hd : (intPart x).denom ≠ [] := isDen_ne (hok x (by simp)).1
        unfold Part.core at e
        rw [if_neg hd] at e
        split at e
        · exact hd e
        · rename_i hn
          exact hn (List.append_eq_nil_iff.1 e).1
      | x :: y :: r, _, _ =>
        apply trim_comma
        apply joinC_comma
        simp
    have hnz : nzr cs = cs := by
      unfold nzr
      rw [List.filter_eq_self]
      intro x hx
      exact decide_eq_true (hok x hx).2.1
    refine (ParseCoins_good (cs.map intPart) cs hps _ hJ hll htn (by simp) (by
      intro k hk
      have hk' : k < cs.length := by simpa using hk
      refine ⟨cs[k], List.getElem?_eq_getElem hk', ?_⟩
      rw [List.getElem_map]
      exact intPart_rd (hok _ (List.getElem_mem _)).1 (hok _ (List.getElem_mem _)).2.2.1 (hok _ (List.getElem_mem _)).2.2.2) (by simpa using h12)
      (fun x hx => ⟨(hok x hx).1, Nat.le_trans (den_parts (hok x hx).1).1 (by omega)⟩) (fun x hx => Nat.lt_trans (hok x hx).2.2.1 (by decide)) w hG).mono ?_
    rintro e w' ⟨l', hp, hasc, hu, hres⟩
    rw [hnz] at hp
    obtain ⟨hst, heq⟩ := sorted_eq hp hasc hs (List.Perm.refl _)
    rcases hres with ⟨_, v, rfl, hown⟩ | ⟨hno, _⟩
    · have hl : l'.length = cs.length := by rw [← heq, List.length_map]
      rw [whole_dm, heq, hl] at hown
      exact ⟨v, rfl, hown, hu⟩
    · exact absurd hst hno

end Go.Proofs.YtnajekpckbfcdaaGreatDoor
