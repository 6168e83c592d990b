/-
  decCoins, DecCoins.String, DecTextOf.
-/
import Derived.Test.YtnajekpckbfcdaaGreatDoorO3
import Derived.Test.YtnajekpckbfcdaaGreatDoorM16
import Derived.Test.YtnajekpckbfcdaaGreatDoorN6
set_option linter.unusedVariables false
set_option linter.unusedSimpArgs false
namespace Go.Proofs.YtnajekpckbfcdaaGreatDoor
open Go.RowKit

set_option maxRecDepth 20000 in
theorem DecCoinString_54 (w : World) (p : Nat) (A : Option Addr) (d : List UInt8) (n : Nat) (h : IntV w p A n) (hn0 : n ≠ 0) (hn : n < 18446744073709551616 ^ 2) (hl : Leaf w) (hd : d.length ≤ 8000000) (hdt : (decText n).length ≤ 100) :
    Calls Tryz.prog 54 #[CV (bs d) p] w fun e w' => e = .returned (.string (bs (decText n ++ d))) ∧ Upd [] w w' := by
  have u1 : Upd [] w (w.alloc (.cells #[.string (bs d), .pointer (some ⟨p, 0, none⟩)] 87)) := (Upd.refl _ _).alloc _
  have hB := Blk.new w 87 #[.string (bs d), .pointer (some ⟨p, 0, none⟩)]
  have HS := hide (fun w' (hu : Upd [] w w') => DecString_83 w' p A n (h.grow hu) hn0 hn ((hu.cell (p := ⟨12, 0, none⟩) (lt_of_cell hl) (by simp)).trans hl))
  have z1 : ((bs d).size : Int) ≤ 8388608 := by rw [bs_size]; omega
  have z2 : ((bs (decText n)).size : Int) ≤ 8388608 := by rw [bs_size]; omega
  have z3 : ¬ 9223372036854775807 < (bs (decText n)).size + (bs d).size := by rw [bs_size, bs_size]; omega
  have hj : bs (decText n) ++ bs d = bs (decText n ++ d) := bs_append _ _
  have HJ := hide hj
  clear h hl hn hn0 hj hd hdt
  generalize bs (decText n ++ d) = R at *
  generalize bs (decText n) = T at *
  generalize bs d = D at *
  go_enter Tryz.func54, Tryz.ntmps54
  go_upto_region 1 with (fail)
  generalize w.alloc (.cells #[.string D, .pointer (some ⟨p, 0, none⟩)] 87) = w1 at *
  have u2 := u1.drew
  have hB2 := hB.drew
  have c0 := hB2.fst
  have c1 := hB2.snd
  clear u1 hB
  go_region_held3 (fun w' => w'.cell? ⟨w.heap.size, 0, none⟩ = some (.string D) ∧ w'.cell? ⟨w.heap.size, 1, none⟩ = some (.pointer (some ⟨p, 0, none⟩)))
    (first | exact ⟨d0, d1⟩ | exact ⟨c0, c1⟩)
    (first
      | (go_at_call 83; refine (HS.out _ u2).mono ?_; rintro e w3 ⟨rfl, hu3⟩; have u3 := u2.on0 hu3; have hB3 := hB2.grow hu3; have d0 := hB3.fst; have d1 := hB3.snd))
  go_wp2
  go_ret
  exact ⟨by rw [HJ.out]; rfl, u3⟩

set_option maxRecDepth 20000 in
set_option maxHeartbeats 1000000 in
theorem dec_47 (w : World) (a b : Nat) (ha : a < 9223372036854775808) (hb : b < 9223372036854775808) :
    Calls Tryz.prog 47 #[.agg #[.int .i64 a, .int .i64 b]] w (DecRes w ((a * 1000000000000000000 + b : Nat) : Int)) := by
  obtain ⟨N, hN⟩ : ∃ N : Nat, N = 1000000000000000000 := ⟨_, rfl⟩
  have hsm : Sm (a : Int) := by unfold Sm; rw [Int.natAbs_natCast]; exact Nat.lt_of_lt_of_le ha (by decide)
  have hsb : Sm (b : Int) := by unfold Sm; rw [Int.natAbs_natCast]; exact Nat.lt_of_lt_of_le hb (by decide)
  have hsN : Sm (N : Int) := by unfold Sm; rw [Int.natAbs_natCast, hN]; decide
  have hsM : Sm ((a * N : Nat) : Int) := sm_of (k := 9223372036854775808 * 1000000000000000000) (by rw [Int.natAbs_natCast, hN]; omega) (by decide)
  have hsS : Sm ((a * N + b : Nat) : Int) := sm_of (k := 9223372036854775808 * 1000000000000000000 + 9223372036854775808) (by rw [Int.natAbs_natCast, hN]; omega) (by decide)
  have h64 : (a : Int).natAbs < 18446744073709551616 := by rw [Int.natAbs_natCast]; omega
  have H0 := hide hsm
  have H1 := hide hsb
  have H2 := hide hsN
  have H3 := hide hsM
  have H4 := hide hsS
  have H5 := hide h64
  have HNA := hide (fun w => NewInt_nat w a ha)
  have HNB := hide (fun w => NewInt_nat w b hb)
  have HU := hide (fun w => hN ▸ unit_any w)
  rw [← hN]
  obtain ⟨M, hM⟩ : ∃ M, a * N = M := ⟨_, rfl⟩
  obtain ⟨S, hS⟩ : ∃ S, M + b = S := ⟨_, rfl⟩
  rw [hM] at H3 H4 ⊢
  rw [hS] at H4 ⊢
  have H6 := hide hM
  have H7 := hide hS
  clear hsm hsb hsN hsM hsS h64 ha hb hN hM hS
  go_enter Tryz.func47, Tryz.ntmps47
  go_upto_region 1 with (fail)
  have u1 : Upd [] w ((w.alloc (.cells #[.int .i64 a, .int .i64 b] 42)).alloc (.cells #[.pointer none] 85)) := ((Upd.refl [] w).alloc _).alloc _
  have hX := (Blk.new w 42 #[.int .i64 a, .int .i64 b]).alloc (.cells #[.pointer none] 85)
  have hR := Blk.new (w.alloc (.cells #[.int .i64 a, .int .i64 b] 42)) 85 #[.pointer none]
  rw [World.size_alloc] at hR
  generalize (w.alloc (.cells #[.int .i64 a, .int .i64 b] 42)).alloc (.cells #[.pointer none] 85) = w1 at *
  have hs1 := u1.size
  have hz := Blk.new w1 133 #[.bool false, .slice none 0 0]
  have u2 := u1.alloc (.cells #[.bool false, .slice none 0 0] 133)
  have hX2 := hX.alloc (.cells #[.bool false, .slice none 0 0] 133)
  have hR2 := hR.alloc (.cells #[.bool false, .slice none 0 0] 133)
  have hXl := hX.lt
  have hRl := hR.lt
  obtain ⟨Z, hZ⟩ : ∃ Z, w1.heap.size = Z := ⟨_, rfl⟩
  rw [hZ] at hz
  have c0 := hX2.fst
  go_wp2_with fail
  refine (HNA.out _).mono ?_
  rintro e w3 ⟨p3, A3, rfl, hI3, hu3, hp3, hA3⟩
  have u3 := u2.on0 hu3
  have hX3 := hX2.grow hu3
  have hR3 := hR2.grow hu3
  have hz3 := hz.grow hu3
  have hp3Z : Z < p3 := by rw [World.size_alloc] at hp3; omega
  clear u2 hX2 hR2 hz hu3 c0 HNA
  go_wp2_with fail
  refine (HU.out _).mono ?_
  rintro e w4 ⟨p4, A4, rfl, hI4, hu4, hp4, hA4⟩
  have u4 := u3.on0 hu4
  have hX4 := hX3.grow hu4
  have hR4 := hR3.grow hu4
  have hz4 := hz3.grow hu4
  have h4 := hI3.grow hu4
  have hl3 := hI3.lt
  have hlz := hz3.lt
  clear u3 hX3 hR3 hz3 hu4 hI3 HU
  go_wp2_with fail
  refine (Mul_any w4 Z p3 p4 false none A3 A4 0 0 [] a N (by omega) (by omega) (by omega) hz4 (NatS.nil _) h4 hI4 H0.out H2.out (.inl H5.out)).mono ?_
  rintro e w5 ⟨A5, rfl, hI5, hu5, hA5⟩
  have u5 := u4.on hu5 (by omega)
  have hX5 := hX4.upd hu5 (by simp [bof]; omega)
  have hR5 := hR4.upd hu5 (by simp [bof]; omega)
  have hI5' : IntV w5 Z A5 (M : Int) := by rw [← H6.out, Int.natCast_mul]; exact hI5
  have hs5 := u5.size
  have hlz5 := hI5.lt
  have hl4 := hR4.lt
  clear u4 hX4 hR4 hz4 hI4 h4 hu5 hI5 H0 H2 H5
  have c1 := hX5.snd
  go_wp2_with fail
  refine (HNB.out _).mono ?_
  rintro e w6 ⟨p6, A6, rfl, hI6, hu6, hp6, hA6⟩
  have u6 := u5.on0 hu6
  have hR6 := hR5.grow hu6
  have h6 := hI5'.grow hu6
  clear u5 hX5 hR5 hI5' hu6 c1 HNB
  go_wp2_with fail
  refine (Add_nat_in w6 Z p6 A5 A6 M b (by omega) h6 hI6 H3.out H1.out).mono ?_
  rintro e w7 ⟨A7, rfl, hI7, hu7, hA7⟩
  rw [H7.out] at hI7
  have hfar : ∀ k ∈ Z :: bof A5, w.heap.size + 1 < k := by
    intro k hk
    rcases List.mem_cons.1 hk with rfl | hk
    · omega
    · rcases hA5 k hk with h | h
      · simp [bof] at h
      · omega
  have u7 := u6.trans hu7 (fun k hk hlt => absurd hlt (by have := hfar k hk; omega))
  have hR7 := hR6.upd hu7 (fun h => by have := hfar _ h; omega)
  clear hfar hA5 hA3 hA4 hA6
  clear u6 hR6 h6 hI6 hu7 H1 H3 H6 H7
  go_wp2_with fail
  refine (DecFromBig_18 _ Z A7 S hI7 H4.out).mono ?_
  rintro e w8 ⟨p8, A8, rfl, hI8, hu8, hp8, hA8⟩
  have u8 := u7.on0 hu8
  have hR8 := hR7.grow hu8
  have r8 := hR8.one
  have f8 := hR8.frozen 0
  have hl8 := hR8.lt
  have hl7 := hR7.lt
  have hs7 := u7.size
  have HA := hide (fun x hx => Nat.le_trans hs7 (hA8 x hx) : ∀ x ∈ bof A8, w.heap.size ≤ x)
  clear hA8 u7 hR7 hI7 hu8 H4
  go_wp2
  refine bodyPost_ret (v := DV p8) (by simp [results, Tryz.results47, r8, hl8, go_sem]) rfl ?_
  exact ⟨p8, A8, rfl, hI8.set_far hR8 (by decide) (by omega) _ _, u8.setCell (fun h => absurd (show w.heap.size + 1 < w.heap.size from h) (by omega)) _, by omega, HA.out⟩

/-- What decCoin hands back. -/
def CoinRes (w : World) (d : List UInt8) (m : Nat) (e : Ending) (w' : World) : Prop :=
  ∃ p A, e = .returned (CV (bs d) p) ∧ IntV w' p A m ∧ Upd [] w w'
set_option maxRecDepth 20000 in
set_option maxHeartbeats 1000000 in
theorem decCoin_53 (w : World) (d : List UInt8) (a b : Nat) (ha : a < 9223372036854775808) (hb : b < 9223372036854775808) :
    Calls Tryz.prog 53 #[.agg #[.string (bs d), .int .i64 a, .int .i64 b]] w (CoinRes w d (a * 1000000000000000000 + b)) := by
  have HD := hide (fun w => dec_47 w a b ha hb)
  obtain ⟨S, hS⟩ : ∃ S, a * 1000000000000000000 + b = S := ⟨_, rfl⟩
  rw [hS] at HD ⊢
  obtain ⟨D, hD⟩ : ∃ D, bs d = D := ⟨_, rfl⟩
  have HB := hide hD
  rw [hD]
  clear ha hb hS hD
  go_enter Tryz.func53, Tryz.ntmps53
  go_upto_region 1 with (fail)
  have u1 : Upd [] w ((w.alloc (.cells #[.string D, .int .i64 a, .int .i64 b] 44)).alloc (.cells #[.string ⟨#[]⟩, .pointer none] 87)) := ((Upd.refl [] w).alloc _).alloc _
  have hX := (Blk.new w 44 #[.string D, .int .i64 a, .int .i64 b]).alloc (.cells #[.string ⟨#[]⟩, .pointer none] 87)
  have hR := Blk.new (w.alloc (.cells #[.string D, .int .i64 a, .int .i64 b] 44)) 87 #[.string ⟨#[]⟩, .pointer none]
  rw [World.size_alloc] at hR
  generalize (w.alloc (.cells #[.string D, .int .i64 a, .int .i64 b] 44)).alloc (.cells #[.string ⟨#[]⟩, .pointer none] 87) = w1 at *
  have u2 := u1.drew
  have hX2 := hX.drew
  have hR2 := hR.drew
  clear u1 hX hR
  have c0 := hX2.c3a
  have c1 := hX2.c3b
  have c2 := hX2.c3
  go_region_held3 (fun w' => w'.cell? ⟨w.heap.size, 0, none⟩ = some (.string D) ∧ w'.cell? ⟨w.heap.size, 1, none⟩ = some (.int .i64 a) ∧ w'.cell? ⟨w.heap.size, 2, none⟩ = some (.int .i64 b))
    (first | exact ⟨e0, e1, e2⟩ | exact ⟨d0, d1, d2⟩ | exact ⟨c0, c1, c2⟩)
    (first
      | (go_at_call 47; refine (HD.out _).mono ?_; rintro e w3 ⟨p, A, rfl, hI3, hu3, hp3, hA3⟩; have u3 := u2.on0 hu3; have hX3 := hX2.grow hu3; have hR3 := hR2.grow hu3; have d0 := hX3.c3a; have d1 := hX3.c3b; have d2 := hX3.c3; have r0 := hR3.fst; have r1 := hR3.snd; have f0 := hR3.frozen 0; have f1 := hR3.frozen 1;
         have hX4 := (hX3.far (p := ⟨w.heap.size + 1, 0, none⟩) (show w.heap.size ≠ w.heap.size + 1 by omega) (.string D)).far (p := ⟨w.heap.size + 1, 1, none⟩) (show w.heap.size ≠ w.heap.size + 1 by omega) (.pointer (some ⟨p, 0, none⟩)); have e0 := hX4.c3a; have e1 := hX4.c3b; have e2 := hX4.c3))
  have hl2 := hR2.lt
  have hR4 := (hR3.put0 (.string D)).put1 (.pointer (some ⟨p, 0, none⟩))
  have hR3a := hR3.put0 (.string D)
  have hI4 := (hI3.set_far (g := w.heap.size + 1) hR3 (by decide) (by omega) 0 (.string D)).set_far hR3a (by decide) (by omega) 1 (.pointer (some ⟨p, 0, none⟩))
  have u4 := (u3.setCell (p := ⟨w.heap.size + 1, 0, none⟩) (fun h => absurd (show w.heap.size + 1 < w.heap.size from h) (by omega)) (.string D)).setCell (p := ⟨w.heap.size + 1, 1, none⟩) (fun h => absurd (show w.heap.size + 1 < w.heap.size from h) (by omega)) (.pointer (some ⟨p, 0, none⟩))
  generalize (w3.setCell ⟨w.heap.size + 1, 0, none⟩ (.string D)).setCell ⟨w.heap.size + 1, 1, none⟩ (.pointer (some ⟨p, 0, none⟩)) = w6 at *
  clear c0 c1 d0 d1 e0 e1 r0 r1 f0 f1
  have r0 := hR4.fst
  have r1 := hR4.snd
  have hl6 := hR4.lt
  go_wp2
  refine bodyPost_ret (v := CV D p) (by simp [results, Tryz.results53, r0, r1, hl6, go_sem]) rfl ?_
  exact ⟨p, A, by rw [HB.out], hI4, u4⟩

end Go.Proofs.YtnajekpckbfcdaaGreatDoor

namespace Go.Proofs.YtnajekpckbfcdaaGreatDoor
open Go.RowKit

/-- The numbers stay behind an append onto a row of decimal coins. -/
theorem DVals.own87 {w w' : World} {l : List DC} {base s n : Nat} {v : Value} {xs : List Value} (h : DVals w l) (hown : w.ownsRow base 87 s v n xs) (hg : w.grownBy w' v.ownBlock) : DVals w' l := fun c hc => by
  obtain ⟨A, L, C, hb, hS⟩ := h c hc
  rcases hown.2 with ⟨rfl, _⟩ | ⟨g, cap, cur, rfl, _, hgb, _⟩
  · have hu : Upd [] w w' := ⟨hg.os, hg.tape, hg.output, hg.size, fun k hk _ => hg.block k hk (by simp [Value.ownBlock])⟩
    exact ⟨A, L, C, hb.upd hu (by simp), hS.upd hu (by simp)⟩
  · have hB : Blk w g 87 cur := hgb
    have hu : Upd [g] w w' := ⟨hg.os, hg.tape, hg.output, hg.size, fun k hk hn => hg.block k hk (by simp [Value.ownBlock]; rintro rfl; simp at hn)⟩
    have hne := hb.ne_ hB (by decide)
    refine ⟨A, L, C, hb.upd hu (by simpa using hne), hS.upd hu ?_⟩
    intro b hb' hm
    simp at hm
    subst hm
    exact hS.not_mem hB (by decide) hb'
theorem addr_field (ad : Addr) (m j : Nat) (hj : 0 < j) : ad.add (m + j) = ⟨(ad.add m).block, (ad.add m).off + j, none⟩ := by
  unfold Addr.add
  by_cases hm : m = 0
  · subst hm
    simp [Nat.ne_of_gt hj]
  · rw [if_neg (by omega), if_neg hm]
    simp; omega
/-- A slice that shows such cells. -/
def RdS (w : World) (A : Option Addr) (n : Nat) (xs : List Value) : Prop := 0 < n → ∃ a, A = some a ∧ ∀ j u, xs[j]? = some u → w.cell? (a.add j) = some u
theorem RdS.grow {w w' : World} {A : Option Addr} {n : Nat} {xs : List Value} (h : RdS w A n xs) (hu : Upd [] w w') : RdS w' A n xs := fun h0 => by
  obtain ⟨a, h1, h3⟩ := h h0
  exact ⟨a, h1, fun j u hj => (hu.cell (lt_of_cell (h3 j u hj)) (by simp)).trans (h3 j u hj)⟩
/-- Three cells that stand side by side. -/
theorem RdS.at3 {w : World} {A : Option Addr} {n : Nat} {xs : List Value} (h : RdS w A n xs) (h0 : 0 < n) {k : Nat} {u v x : Value} (e0 : xs[k * 3]? = some u) (e1 : xs[k * 3 + 1]? = some v) (e2 : xs[k * 3 + 2]? = some x) :
    ∃ a, A = some a ∧ w.cell? (a.add (k * 3)) = some u ∧ w.cell? ⟨(a.add (k * 3)).block, (a.add (k * 3)).off + 1, none⟩ = some v ∧ w.cell? ⟨(a.add (k * 3)).block, (a.add (k * 3)).off + 2, none⟩ = some x := by
  obtain ⟨a, h1, h3⟩ := h h0
  exact ⟨a, h1, h3 _ _ e0, by rw [← addr_field _ _ 1 (by omega)]; exact h3 _ _ e1, by rw [← addr_field _ _ 2 (by omega)]; exact h3 _ _ e2⟩

/-- What decCoins hands back. -/
def CoinsRes (w : World) (L : List (List UInt8 × Nat)) (e : Ending) (w' : World) : Prop :=
  ∃ v l2, e = .returned v ∧ w'.ownsRow w.heap.size 87 2 v l2.length (dcells l2) ∧ l2.map dm = L ∧ DVals w' l2 ∧ Upd [] w w'
set_option maxRecDepth 20000 in
set_option maxHeartbeats 4000000 in
theorem decCoins_34 (L : List (List UInt8 × Nat)) (A : Option Addr) (c : Nat) (hn : L.length ≤ 1000) (hm : ∀ x ∈ L, x.2 < 9223372036854775808 * 1000000000000000000) (w : World) (hA : RdS w A L.length (xcells L)) :
    Calls Tryz.prog 34 #[.slice A L.length c] w (CoinsRes w L) := by
  obtain ⟨n, hne⟩ : ∃ n, L.length = n := ⟨_, rfl⟩
  have HN := hide hne
  have HA := hide hA
  have HM := hide hm
  rw [hne] at hn HA ⊢
  obtain ⟨i0, hi, hz0, hz1, hz2⟩ := info_parts info87
  clear hm hne hA
  go_enter Tryz.func34, Tryz.ntmps34
  go_wp2_with fail
  go_loopw [3, 8] (fun v i wr => ∃ (k : Nat) (l2 : List DC), k ≤ n ∧ i = .int .i64 k ∧ wr.ownsRow w.heap.size 87 2 v l2.length (dcells l2) ∧ Hid (l2.map dm = L.take k) ∧ DVals wr l2 ∧ Upd [] w wr) (fun _ i _ => n - (intOf i).toNat)
  case atStart => exact ⟨0, [], by omega, rfl, World.ownsRow_nil _ _ _ _, rfl, fun c hc => by simp at hc, Upd.refl _ _⟩
  case round =>
    obtain ⟨k, l2, hk, rfl, hown, hmap, hv2, hu⟩ := hrel
    have HOWN := hide hown
    clear hown
    rcases (by omega : k < n ∨ k = n) with hlt | rfl
    · have hkl : k < L.length := by have := HN.out; omega
      obtain ⟨e0, e1, e2⟩ := xcells_get L k hkl
      obtain ⟨ad, rfl, c0, c1, c2⟩ := (HA.out.grow hu).at3 (by omega) e0 e1 e2
      have hmx := HM.out L[k] (List.getElem_mem _)
      have htk : L.take (k + 1) = L.take k ++ [L[k]] := List.take_succ_eq_append_getElem hkl
      have hl2 : l2.length ≤ 1000 := by
        have h1 := congrArg List.length hmap.out
        rw [List.length_map, List.length_take] at h1
        omega
      have s1 : (k : Int) < (n : Int) := by omega
      have HTK := hide htk
      have hab : L[k].2 / 1000000000000000000 * 1000000000000000000 + L[k].2 % 1000000000000000000 = L[k].2 := by omega
      have ha9 : L[k].2 / 1000000000000000000 < 9223372036854775808 := by omega
      have hb9 : L[k].2 % 1000000000000000000 < 9223372036854775808 := by omega
      clear htk e0 e1 e2
      generalize L[k] = x at *
      obtain ⟨d, m⟩ := x
      dsimp only at c0 c1 c2 hmx hab ha9 hb9
      have HC := hide (fun w => decCoin_53 w d _ _ ha9 hb9)
      rw [hab] at HC
      clear hab ha9 hb9 hmx
      generalize m / 1000000000000000000 = a at *
      generalize m % 1000000000000000000 = b at *
      have u2 := hu.alloc (.cells #[.string (bs d), .int .i64 a, .int .i64 b] 44)
      have U2 := (Upd.refl [] wr).alloc (.cells #[.string (bs d), .int .i64 a, .int .i64 b] 44)
      have hT2 := Blk.new wr 44 #[.string (bs d), .int .i64 a, .int .i64 b]
      have HO2 := hide (HOWN.out.alloc (.cells #[.string (bs d), .int .i64 a, .int .i64 b] 44))
      have hV2 := hv2.grow U2
      clear HOWN hu hv2
      go_upto_region 5 with (fail)
      clear c0 c1 c2
      obtain ⟨Y, hY⟩ : ∃ Y, wr.heap.size = Y := ⟨_, rfl⟩
      rw [hY] at hT2 ⊢
      generalize wr.alloc (.cells #[.string (bs d), .int .i64 a, .int .i64 b] 44) = w2 at *
      clear hY
      have y0 := hT2.c3a
      have y1 := hT2.c3b
      have y2 := hT2.c3
      go_wp2_with fail
      refine (HC.out _).mono ?_
      rintro e w3 ⟨p1, A1, rfl, hI1, hu3⟩
      have u3 := u2.on0 hu3
      have HO3 := hide (own_grow HO2.out hu3)
      have HV3 := hide ((hV2.grow hu3).append (DVals.one (d := d) hI1))
      have hwb := u3.size
      clear HC HO2 u2 U2 hT2 y0 y1 y2 hu3 hV2 hI1
      go_wp2_with (first
        | (at_builtin; refine wpList_append_own _ rfl _ _ 59 rfl w.heap.size 87 i0 (.agg #[.string ⟨#[]⟩, .pointer none]) 2 24 Tryz.underlying59 hi hz0 hz1 hz2 rfl (by decide) _ _ _ rfl (HO3.out.alloc _) ⟨w3.heap.size, 0, none⟩ 1 1 [.string (bs d), .pointer (some ⟨p1, 0, none⟩)] rfl rfl ?d1 ?d2 ?d3 ?d4 ?d5 ?_)
        | fail)
      case d1 =>
        intro j u hj
        match j, hj with
        | 0, hj => simp at hj; subst hj; simp [Addr.add]
        | 1, hj => simp at hj; subst hj; simp [Addr.add]
        | j + 2, hj => simp at hj
      case d2 =>
        intro u hu
        simp at hu
        rcases hu with rfl | rfl <;> rfl
      case d3 => unfold maxLen; omega
      case d4 => omega
      case d5 => simp; omega
      intro v' w6 hown' hgrow _
      have u6 : Upd [] w w6 := Upd.of_below ((Below.alloc (u3.below (Nat.le_refl _) (by simp)) hwb _).grown hgrow (by simp; omega) (fun k hk => (World.ownsRow.lt HO3.out k hk).1)) []
      have hv6 : DVals w6 (l2 ++ [⟨d, m, p1⟩]) := (HV3.out.grow ((Upd.refl [] w3).alloc _)).own87 (HO3.out.alloc _) hgrow
      have ho6 : w6.ownsRow w.heap.size 87 2 v' (l2 ++ [(⟨d, m, p1⟩ : DC)]).length (dcells (l2 ++ [(⟨d, m, p1⟩ : DC)])) := by
        rw [dcells_append, List.length_append]; exact hown'
      have hmap' : (l2 ++ [(⟨d, m, p1⟩ : DC)]).map dm = L.take (k + 1) := by
        rw [HTK.out, List.map_append, hmap.out, List.map_cons, List.map_nil]; rfl
      have HO6 := hide ho6
      have HM6 := hide hmap'
      clear ho6 hown' hgrow HO3 u3 hmap' HV3
      go_wp2
      go_roundw
      case rel => exact ⟨k + 1, l2 ++ [⟨d, m, p1⟩], by omega, by go_num, HO6.out, HM6, hv6, u6⟩
      case measure => first | (simp [intOf]; done) | (simp [intOf]; omega)
    · have s1 : ¬ (k : Int) < (k : Int) := by omega
      have hlk : L.take k = L := List.take_of_length_le (by have := HN.out; omega)
      rw [hlk] at hmap
      go_wp2
      go_ret
      exact ⟨_, l2, rfl, HOWN.out, hmap.out, hv2, hu⟩

end Go.Proofs.YtnajekpckbfcdaaGreatDoor

namespace Go.Proofs.YtnajekpckbfcdaaGreatDoor
open Go.RowKit

/-- A decimal coin's text. -/
def dText (x : List UInt8 × Nat) : List UInt8 := decText x.2 ++ x.1
/-- Texts, each with a comma behind it. -/
def ends : List (List UInt8) → List UInt8
  | [] => []
  | x :: r => x ++ 44 :: ends r
theorem ends_snoc (x : List UInt8) : ∀ l : List (List UInt8), ends (l ++ [x]) = ends l ++ (x ++ [44])
  | [] => by simp [ends]
  | y :: r => by
    show y ++ 44 :: ends (r ++ [x]) = (y ++ 44 :: ends r) ++ (x ++ [44])
    rw [ends_snoc x r]; simp
theorem ends_join : ∀ l : List (List UInt8), l ≠ [] → ends l = joinC 44 l ++ [44]
  | [], h => absurd rfl h
  | [x], _ => rfl
  | x :: y :: r, _ => by
    show x ++ 44 :: ends (y :: r) = (x ++ 44 :: joinC 44 (y :: r)) ++ [44]
    rw [ends_join (y :: r) (by simp)]; simp
theorem ends_len (m : Nat) : ∀ ls : List (List UInt8), (∀ l ∈ ls, l.length ≤ m) → (ends ls).length ≤ (m + 1) * ls.length
  | [], _ => by simp [ends]
  | x :: r, h => by
    have h1 := h x (by simp)
    have h2 := ends_len m r (fun l hl => h l (List.mem_cons_of_mem _ hl))
    show (x ++ 44 :: ends r).length ≤ _
    simp only [List.length_append, List.length_cons, Nat.mul_add, Nat.mul_one] at h2 ⊢
    omega
theorem decText_len (n : Nat) (h : n < 10 ^ 36) : (decText n).length ≤ 37 := by
  unfold decText
  have h1 : n / 1000000000000000000 < 10 ^ 18 := by
    have e : (10 : Nat) ^ 36 = 1000000000000000000 * 10 ^ 18 := by decide
    rw [e] at h
    exact Nat.div_lt_of_lt_mul h
  have h2 := nd_le 18 _ h1
  rw [tn_18, List.length_append, List.length_cons, pd_len]
  unfold tn
  rw [pd_len]
  omega

set_option maxRecDepth 20000 in
set_option maxHeartbeats 4000000 in
theorem DecCoinsString_35 (l : List DC) (base : Nat) (A : Value) (hn : l.length ≤ 1000) (hm : ∀ x ∈ l, x.m ≠ 0 ∧ x.m < 10 ^ 36 ∧ x.d.length ≤ 200) (w : World) (hA : w.ownsRow base 87 2 A l.length (dcells l)) (hv : DVals w l) (hl : Leaf w) :
    Calls Tryz.prog 35 #[A] w fun e w' => e = .returned (.string (bs (joinC 44 ((l.map dm).map dText)))) ∧ Upd [] w w' := by
  rcases Nat.eq_zero_or_pos l.length with h0 | h0
  · have hl0 : l = [] := List.length_eq_zero_iff.1 h0
    subst hl0
    obtain ⟨a, c, rfl, _⟩ := own_slice hA
    simp only [List.length_nil]
    clear hA hm hv hn h0 hl
    go_enter Tryz.func35, Tryz.ntmps35
    go_wp2
    go_ret
    exact ⟨rfl, Upd.refl _ _⟩
  obtain ⟨g, cap, rfl, _, h⟩ := own_drow hA h0
  obtain ⟨tx, htx⟩ : ∃ tx : List (List UInt8), (l.map dm).map dText = tx := ⟨_, rfl⟩
  have htl : tx.length = l.length := by rw [← htx]; simp
  have hlen : ∀ k, (ends (tx.take k)).length ≤ 238000 := by
    intro k
    have h1 := ends_len 237 (tx.take k) (by
      intro u hu
      have := List.mem_of_mem_take hu
      rw [← htx, List.map_map] at this
      obtain ⟨x, hx, rfl⟩ := List.mem_map.1 this
      obtain ⟨h1, h2, h3⟩ := hm x hx
      have := decText_len x.m h2
      show (decText x.m ++ x.d).length ≤ _
      rw [List.length_append]; omega)
    have h2 : (tx.take k).length ≤ 1000 := by rw [List.length_take]; omega
    omega
  have HLEN := hide hlen
  have HTL := hide htl
  have hmap : ∀ (k : Nat) (hk : k < l.length) (hk' : k < tx.length), tx[k] = decText l[k].m ++ l[k].d := by
    intro k hk hk'
    subst htx
    simp [dText, dm]
  have HMAP := hide hmap
  have HM := hide hm
  have hjoin : ends tx = joinC 44 tx ++ [44] := ends_join tx (by intro e; rw [e] at htl; simp at htl; omega)
  have HJOIN := hide hjoin
  obtain ⟨n, hne⟩ : ∃ n, l.length = n := ⟨_, rfl⟩
  have HN := hide hne
  rw [htx]
  rw [hne] at hn h0 ⊢
  have e0 : ((n : Int) == 0) = false := by simp; omega
  clear hne hA hm hlen htl hmap htx hjoin
  go_enter Tryz.func35, Tryz.ntmps35
  go_wp2_with fail
  go_loopw [3, 11] (fun s i wr => ∃ k : Nat, k ≤ n ∧ i = .int .i64 k ∧ s = .string (bs (ends (tx.take k))) ∧ Upd [] w wr) (fun _ i _ => n - (intOf i).toNat)
  case atStart => exact ⟨0, by omega, rfl, by simp [ends, bs], Upd.refl _ _⟩
  case round =>
    obtain ⟨k, hk, rfl, rfl, hu⟩ := hrel
    rcases (by omega : k < n ∨ k = n) with hlt | rfl
    · have hkl : k < l.length := by have := HN.out; omega
      have hkt : k < tx.length := by have := HN.out; have := HTL.out; omega
      have hr := h.grow hu
      have c0 := hr.cell0 k hkl
      have c1 := hr.cell1 k hkl
      obtain ⟨A, hI⟩ := (hv.grow hu) l[k] (List.getElem_mem _)
      obtain ⟨hm0, hm1, hm2⟩ := HM.out l[k] (List.getElem_mem _)
      have htk : ends (tx.take (k + 1)) = ends (tx.take k) ++ ((decText l[k].m ++ l[k].d) ++ [44]) := by
        rw [List.take_succ_eq_append_getElem hkt, ends_snoc, HMAP.out k hkl hkt]
      have hz0 := HLEN.out k
      have hz1 := HLEN.out (k + 1)
      rw [htk] at hz1
      have s1 : (k : Int) < (n : Int) := by omega
      have hlw := (hu.cell (p := ⟨12, 0, none⟩) (lt_of_cell hl) (by simp)).trans hl
      generalize l[k] = x at *
      have HS := hide (fun w' (hu' : Upd [] wr w') => DecCoinString_54 w' x.q A x.d x.m (hI.grow hu') hm0 (Nat.lt_trans hm1 (by decide)) ((hu'.cell (p := ⟨12, 0, none⟩) (lt_of_cell hlw) (by simp)).trans hlw) (by omega) (by have := decText_len x.m hm1; omega))
      have hdl := decText_len x.m hm1
      clear hI hm0 hm1 hlw
      obtain ⟨T, hT⟩ : ∃ T, decText x.m ++ x.d = T := ⟨_, rfl⟩
      have hTl : T.length ≤ 300 := by rw [← hT, List.length_append]; omega
      rw [hT] at HS htk hz1
      obtain ⟨E, hE⟩ : ∃ E, ends (tx.take k) = E := ⟨_, rfl⟩
      rw [hE] at htk hz0 hz1 ⊢
      have HTK := hide htk
      have m0 : ((bs E).size : Int) ≤ 8388608 := by rw [bs_size]; omega
      have m1 : ((bs T).size : Int) ≤ 8388608 := by rw [bs_size]; omega
      have m2 : ((bs T ++ (⟨#[44]⟩ : ByteArray)).size : Int) ≤ 8388608 := by
        rw [ByteArray.size_append, bs_size]
        show ((T.length + 1 : Nat) : Int) ≤ _
        omega
      have hcat : bs E ++ (bs T ++ (⟨#[44]⟩ : ByteArray)) = bs (E ++ (T ++ [44])) := by
        rw [show (⟨#[44]⟩ : ByteArray) = bs [44] from rfl, bs_append, bs_append]
      have HCAT := hide hcat
      clear htk hT hE hz0 hz1 hTl hdl hcat hm2
      generalize bs E = BE at *
      generalize bs T = BT at *
      have u2 := hu.alloc (.cells #[.string (bs x.d), .pointer (some ⟨x.q, 0, none⟩)] 87)
      have U2 := (Upd.refl [] wr).alloc (.cells #[.string (bs x.d), .pointer (some ⟨x.q, 0, none⟩)] 87)
      have hT2 := Blk.new wr 87 #[.string (bs x.d), .pointer (some ⟨x.q, 0, none⟩)]
      clear hu
      go_upto_region 7 with (fail)
      clear c0 c1
      obtain ⟨Y, hY⟩ : ∃ Y, wr.heap.size = Y := ⟨_, rfl⟩
      rw [hY] at hT2 ⊢
      generalize wr.alloc (.cells #[.string (bs x.d), .pointer (some ⟨x.q, 0, none⟩)] 87) = w2 at *
      clear hY
      have y0 := hT2.fst
      have y1 := hT2.snd
      go_wp2_with fail
      refine (HS.out _ U2).mono ?_
      rintro e w3 ⟨rfl, hu3⟩
      have u3 := u2.on0 hu3
      clear HS u2 U2 hT2 y0 y1 hu3
      go_wp2
      go_roundw
      case rel => exact ⟨k + 1, by omega, by go_num, by rw [HTK.out, ← HCAT.out], u3⟩
      case measure => first | (simp [intOf]; done) | (simp [intOf]; omega)
    · have s1 : ¬ (k : Int) < (k : Int) := by omega
      have hlk : tx.take k = tx := List.take_of_length_le (by have := HN.out; have := HTL.out; omega)
      have hjl := HLEN.out k
      rw [hlk, HJOIN.out] at hjl
      rw [hlk, HJOIN.out]
      clear hlk HJOIN HMAP HM HLEN
      obtain ⟨J, hJ⟩ : ∃ J, joinC 44 tx = J := ⟨_, rfl⟩
      rw [hJ] at hjl ⊢
      have HJ := hide hJ
      clear hJ
      obtain ⟨j, hj⟩ : ∃ j, J.length = j := ⟨_, rfl⟩
      have hx : (bs (J ++ [44])).extract 0 j = bs J := by rw [bs_extract, ← hj]; simp
      have hz : (bs (J ++ [44])).size = j + 1 := by rw [bs_size, List.length_append, hj]; rfl
      rw [List.length_append, hj] at hjl
      clear hj
      generalize bs (J ++ [44]) = E at *
      obtain ⟨B, hB⟩ : ∃ B, bs J = B := ⟨_, rfl⟩
      rw [hB] at hx
      have HB := hide hB
      clear hB
      have hj9 : j ≤ 300000 := by simp at hjl; omega
      have b1 : (0 : Int) ≤ (j : Int) := by omega
      have b2 : (j : Int) ≤ (j : Int) + 1 := by omega
      clear hjl
      go_wp2
      go_ret
      exact ⟨by rw [HJ.out, HB.out]; rfl, hu⟩

theorem DecTextOf_19 (L : List (List UInt8 × Nat)) (A : Option Addr) (c : Nat) (hn : L.length ≤ 1000) (hm : ∀ x ∈ L, x.2 ≠ 0 ∧ x.2 < 10 ^ 36 ∧ x.1.length ≤ 200) (w : World) (hA : RdS w A L.length (xcells L)) (hl : Leaf w) :
    Calls Tryz.prog 19 #[.slice A L.length c] w fun e w' => e = .returned (.string (bs (joinC 44 (L.map dText)))) ∧ Upd [] w w' := by
  have HC := hide (decCoins_34 L A c hn (fun x hx => Nat.lt_trans (hm x hx).2.1 (by decide)) w hA)
  have HM := hide hm
  have HL := hide hn
  clear hn hm hA
  go_enter Tryz.func19, Tryz.ntmps19
  go_wp2_with fail
  refine HC.out.mono ?_
  rintro e w2 ⟨v, l2, rfl, hown, hmap, hv, hu⟩
  have hl2 : l2.length = L.length := by rw [← hmap, List.length_map]
  have hS := DecCoinsString_35 l2 w.heap.size v (by rw [hl2]; exact HL.out) (fun x hx => by
    have := HM.out (dm x) (by rw [← hmap]; exact List.mem_map.2 ⟨x, hx, rfl⟩)
    exact this) w2 hown hv ((hu.cell (p := ⟨12, 0, none⟩) (lt_of_cell hl) (by simp)).trans hl)
  rw [hmap] at hS
  have HS := hide hS
  clear hS hown hmap hl2 hv
  go_wp2_with fail
  refine HS.out.mono ?_
  rintro e w3 ⟨rfl, hu3⟩
  go_wp2
  go_ret
  exact ⟨rfl, hu.on0 hu3⟩

end Go.Proofs.YtnajekpckbfcdaaGreatDoor
