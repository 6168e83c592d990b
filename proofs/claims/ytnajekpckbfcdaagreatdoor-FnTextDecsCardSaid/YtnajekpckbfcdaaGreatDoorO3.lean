/-
  LegacyDec.String.
-/
import Derived.Test.YtnajekpckbfcdaaGreatDoorO2
import Derived.Laws.CopyOwn
import Derived.Laws.IdiomStrings
import Derived.Deep.RegionLaw
set_option linter.unusedVariables false
set_option linter.unusedSimpArgs false
namespace Go.Proofs.YtnajekpckbfcdaaGreatDoor
open Go.RowKit

theorem nd_div : ∀ (k n : Nat), nd (n / 10 ^ k) = nd n - k
  | 0, n => by simp
  | k + 1, n => by
    rw [Nat.pow_succ, Nat.mul_comm (10 ^ k) 10, ← Nat.div_div_eq_div_mul, nd_div k (n / 10)]
    by_cases h : n = 0
    · rw [h, Nat.zero_div, nd_zero]; omega
    · rw [nd_pos n h]; omega
/-- A number's text with at least so many digits. -/
def tn (n least : Nat) : List UInt8 := pd (max least (nd n)) n
/-- The text of n parts of 10^18. -/
def decText (n : Nat) : List UInt8 := tn (n / 1000000000000000000) 1 ++ 46 :: tn (n % 1000000000000000000) 18
theorem tn_18 (n : Nat) : tn (n % 1000000000000000000) 18 = pd 18 n := by
  unfold tn
  have h : nd (n % 1000000000000000000) ≤ 18 := nd_le 18 _ (Nat.mod_lt _ (by decide))
  rw [Nat.max_eq_left h]
  exact pd_mod 18 n
theorem decText_small (n : Nat) (h : nd n ≤ 18) : decText n = 48 :: 46 :: (List.replicate (18 - nd n) 48 ++ pd (nd n) n) := by
  have hn : n < 1000000000000000000 := Nat.lt_of_lt_of_le (nd_lt n) (Nat.pow_le_pow_right (by decide) h)
  unfold decText
  rw [tn_18, Nat.div_eq_of_lt hn, pd_strip 18 n hn]
  have e : tn 0 1 = [48] := by
    unfold tn
    rw [nd_zero]; rfl
  rw [e]
  rfl
theorem decText_big (n : Nat) (h : 18 < nd n) : decText n = pd (nd n - 18) (n / 1000000000000000000) ++ 46 :: pd 18 n := by
  unfold decText
  rw [tn_18]
  have e : tn (n / 1000000000000000000) 1 = pd (nd n - 18) (n / 1000000000000000000) := by
    unfold tn
    have := nd_div 18 n
    rw [show (10 : Nat) ^ 18 = 1000000000000000000 by decide] at this
    rw [this, Nat.max_eq_right (by omega)]
  rw [e]
theorem pd_nd_split (n : Nat) (h : 18 < nd n) : pd (nd n) n = pd (nd n - 18) (n / 1000000000000000000) ++ pd 18 n := by
  have e : nd n = (nd n - 18) + 18 := by omega
  conv => lhs; rw [e]
  rw [pd_split]

/-- The 20 bytes, k zeros written behind the point. -/
def fl (k : Nat) : List UInt8 := 48 :: 46 :: (List.replicate k 48 ++ List.replicate (18 - k) 0)
theorem fl_put (k : Nat) (h : k < 18) : (fl k).set (k + 2) 48 = fl (k + 1) := by
  obtain ⟨j, hj⟩ : ∃ j, 18 - k = j + 1 := ⟨18 - k - 1, by omega⟩
  have h1 : (List.replicate k (48 : UInt8) ++ List.replicate (18 - k) 0).set k 48 = List.replicate (k + 1) 48 ++ List.replicate (18 - (k + 1)) 0 := by
    rw [hj, show 18 - (k + 1) = j by omega, List.set_append_right _ _ (by simp), List.length_replicate, Nat.sub_self, List.replicate_succ (n := j), List.set_cons_zero, List.replicate_succ', List.append_assoc]
    rfl
  show 48 :: 46 :: ((List.replicate k (48 : UInt8) ++ List.replicate (18 - k) 0).set k 48) = _
  rw [h1]
  rfl
theorem fl_splice (n : Nat) (h : nd n ≤ 18) : splice (bvals (fl (18 - nd n))) (2 + (18 - nd n)) (bvals (pd (nd n) n)) = bvals (decText n) := by
  have e1 : bvals (fl (18 - nd n)) = (Value.int .u8 48 :: Value.int .u8 46 :: List.replicate (18 - nd n) (Value.int .u8 48)) ++ List.replicate (nd n) (Value.int .u8 0) := by
    unfold fl bvals
    rw [show 18 - (18 - nd n) = nd n by omega]
    simp
  have e2 : bvals (decText n) = (Value.int .u8 48 :: Value.int .u8 46 :: List.replicate (18 - nd n) (Value.int .u8 48)) ++ bvals (pd (nd n) n) := by
    rw [decText_small n h]
    unfold bvals
    simp
  rw [e1, e2]
  unfold splice
  have hl : (Value.int .u8 48 :: Value.int .u8 46 :: List.replicate (18 - nd n) (Value.int .u8 48)).length = 2 + (18 - nd n) := by simp; omega
  have h2 : (bvals (pd (nd n) n)).length = nd n := by rw [bvals_len, pd_len]
  rw [← hl, List.take_left, List.drop_append, h2]
  have h3 : (Value.int .u8 48 :: Value.int .u8 46 :: List.replicate (18 - nd n) (Value.int .u8 48)).drop ((Value.int .u8 48 :: Value.int .u8 46 :: List.replicate (18 - nd n) (Value.int .u8 48)).length + nd n) = [] := List.drop_of_length_le (by omega)
  rw [h3, Nat.add_sub_cancel_left, List.drop_of_length_le (by simp)]
  simp
theorem DigRow.row {w : World} {base n : Nat} {v : Value} (h : DigRow w base n v) (h0 : 0 < nd n) : ∃ g cap, v = .slice (some ⟨g, 0, none⟩) (nd n) cap ∧ base ≤ g ∧ nd n ≤ cap ∧ g < w.heap.size ∧ ∀ j u, (bvals (pd (nd n) n))[j]? = some u → w.cell? ⟨g, j, none⟩ = some u := by
  rcases h.2 with ⟨_, h1⟩ | ⟨g, cap, cur, rfl, hb, hg, hc, _⟩
  · omega
  · refine ⟨g, cap, rfl, hb, hc, (Array.getElem?_eq_some_iff.1 hg).1, ?_⟩
    intro j u hj
    have := h.cells (g := g) rfl j u hj
    rwa [addr_addo, Nat.zero_add] at this
theorem size5 : (Tryz.prog.info? 5).map (·.size) = some 1 := by kernel_rfl
theorem nd_one (n : Nat) (h : n ≠ 0) : 0 < nd n := by rw [nd_pos n h]; omega

set_option maxRecDepth 20000 in
set_option maxHeartbeats 4000000 in
theorem DecString_83 (w : World) (p : Nat) (A : Option Addr) (n : Nat) (h : IntV w p A n) (hn0 : n ≠ 0) (hn : n < 18446744073709551616 ^ 2) (hl : Leaf w) :
    Calls Tryz.prog 83 #[DV p] w fun e w' => e = .returned (.string (bs (decText n))) ∧ Upd [] w w' := by
  have u1 : Upd [] w (w.alloc (.cells #[.pointer (some ⟨p, 0, none⟩)] 85)) := (Upd.refl _ _).alloc _
  have hB1 := Blk.new w 85 #[.pointer (some ⟨p, 0, none⟩)]
  have nn := n_ptr83_nil
  have ne := n_nil_nil
  have hnd : nd n ≤ 100 := nd_le 100 n (Nat.lt_trans hn (by decide))
  have hnp := nd_one n hn0
  have HM := hide (fun w' (hu : Upd [] w w') => MarshalText_117 w' p A n (h.grow hu) hn0 hn ((hu.cell (p := ⟨12, 0, none⟩) (lt_of_cell hl) (by simp)).trans hl))
  have HNG := hide (fun w' (hu : Upd [] w w') => IsNegative_any w' p A n (h.grow hu))
  obtain ⟨i0, hi, hz0, hz1, hz2⟩ := info_parts info5
  clear h hl
  go_enter Tryz.func83, Tryz.ntmps83
  go_upto_region 3 with (fail)
  generalize w.alloc (.cells #[.pointer (some ⟨p, 0, none⟩)] 85) = w1 at *
  have c1 := hB1.one
  have hsg : ((n : Int).sign == -1) = false := by
    rw [Int.sign_eq_one_of_pos (by omega)]; decide
  rw [hsg] at HNG
  clear hsg
  go_wp2_with fail
  refine (HNG.out _ u1).mono ?_
  rintro e w2 ⟨rfl, hu2⟩
  have u2 := u1.on0 hu2
  have hB2 := hB1.grow hu2
  clear u1 hu2 hB1 c1 HNG
  have c1 := hB2.one
  go_wp2_with fail
  refine (HM.out _ u2).mono ?_
  rintro e w3 ⟨v, rfl, hd, hu3⟩
  have u3 := u2.on0 hu3
  obtain ⟨g, cap, rfl, hgb, hgc, hgl, hcells⟩ := hd.row hnp
  have HCE := hide hcells
  have hg0 : w.heap.size ≤ g := Nat.le_trans u2.size hgb
  clear hd hcells u2 hu3 hB2 c1 HM hgb
  rcases (by omega : nd n ≤ 18 ∨ 18 < nd n) with hs | hbig
  · have HF := hide (fl_splice n hs)
    have HDT := hide (decText_small n hs)
    obtain ⟨d, hdd⟩ : ∃ d, nd n = d := ⟨_, rfl⟩
    have HD := hide hdd
    rw [hdd] at hgc hnp hs hnd ⊢
    obtain ⟨Z, hZ⟩ : ∃ Z, List.replicate 20 (0 : UInt8) = Z := ⟨_, rfl⟩
    have HZ0 := hide (by rw [← hZ]; rfl : (Z.set 0 48).set 1 46 = fl 0)
    have hZl : Z.length = 20 := by rw [← hZ]; rfl
    have hmk : ∀ w : World, (Instr.makeSlice 78 (.int .i64 20) (.int .i64 20)).run Tryz.prog w = .ok (.slice (some ⟨w.heap.size, 0, none⟩) 20 20) (w.alloc (.cells (bcells Z) 5)) := fun w => by
      have := run_make_rowN (P := Tryz.prog) 78 5 i0 _ Tryz.underlying78 hi hz0 .i64 .i64 20 20 (Nat.le_refl _) (by rw [hz2]; omega) (by omega) w
      rw [hz1, Nat.mul_one] at this
      rw [← hZ, ← made_bytes]
      exact this
    have t1 : (d : Int) ≤ 18 := by omega
    clear hdd hn hn0 hnd hZ
    go_upto_region 13 with (fail)
    have hB := Blk.new w3 5 (bcells Z)
    have u4 := u3.alloc (.cells (bcells Z) 5)
    have U4 := (Upd.refl [] w3).alloc (.cells (bcells Z) 5)
    generalize w3.alloc (.cells (bcells Z) 5) = w4 at *
    obtain ⟨G, hG⟩ : ∃ G, w3.heap.size = G := ⟨_, rfl⟩
    have hGw : w.heap.size ≤ G := by have := u3.size; omega
    have hgG : g < G := by omega
    rw [hG] at hB ⊢
    have b5 := hB.set_ 0 (.int .u8 ((48 : UInt8).toNat : Nat))
    rw [bcells_set] at b5
    have b6 := b5.set_ 1 (.int .u8 ((46 : UInt8).toNat : Nat))
    rw [bcells_set, HZ0.out] at b6
    have b6' : Blk ((w4.setCell ⟨G, 0, none⟩ (.int .u8 48)).setCell ⟨G, 1, none⟩ (.int .u8 46)) G 5 (bcells (fl 0)) := b6
    have u6 := (u4.setCell (p := ⟨G, 0, none⟩) (S := []) (fun h => absurd (show G < w.heap.size from h) (by omega)) (.int .u8 48)).setCell (p := ⟨G, 1, none⟩) (fun h => absurd (show G < w.heap.size from h) (by omega)) (.int .u8 46)
    have U6 : Upd [] w3 ((w4.setCell ⟨G, 0, none⟩ (.int .u8 48)).setCell ⟨G, 1, none⟩ (.int .u8 46)) := (U4.setCell (p := ⟨G, 0, none⟩) (S := []) (fun h => absurd (show G < w3.heap.size from h) (by omega)) (.int .u8 48)).setCell (p := ⟨G, 1, none⟩) (fun h => absurd (show G < w3.heap.size from h) (by omega)) (.int .u8 46)
    have z0 := hB.at_ (i := 0) (v := .int .u8 (Z[0].toNat : Nat)) (bcells_get _ _ (by omega))
    have z1 := b5.at_ (i := 1) (v := .int .u8 (((Z.set 0 48)[1]'(by rw [List.length_set]; omega)).toNat : Nat)) (bcells_get _ _ (by rw [List.length_set]; omega))
    have f0 := hB.frozen 0
    have f1 := hB.frozen 1
    generalize (Z[0].toNat : Nat) = o0 at z0
    generalize (((Z.set 0 48)[1]'(by rw [List.length_set]; omega)).toNat : Nat) = o1 at z1
    have z1' : (w4.setCell ⟨G, 0, none⟩ (.int .u8 48)).cell? ⟨G, 1, none⟩ = some (.int .u8 (o1 : Int)) := z1
    clear b5 b6 hB u4 U4 hmk z1
    go_upto_region 15 with (fail)
    generalize (w4.setCell ⟨G, 0, none⟩ (.int .u8 48)).setCell ⟨G, 1, none⟩ (.int .u8 46) = w6 at *
    clear z0 z1' f0 f1
    obtain ⟨s, hs18⟩ : ∃ s, s + d = 18 := ⟨18 - d, by omega⟩
    have hsd : 18 - d = s := by omega
    have e18 : (18 : Int) - (d : Int) = (s : Int) := by omega
    have HND := hide (HD.out ▸ hsd : 18 - nd n = s)
    go_upto_region 16 with (fail)
    go_loopw [8] (fun i wr => ∃ k : Nat, k ≤ s ∧ i = .int .i64 k ∧ Blk wr G 5 (bcells (fl k)) ∧ Upd [] w wr ∧ Upd [] w3 wr) (fun i _ => s - (intOf i).toNat)
    case atStart => exact ⟨0, Nat.zero_le _, rfl, b6', u6, U6⟩
    case round =>
      clear b6' u6 U6
      obtain ⟨k, hk, rfl, hB, hu, hU⟩ := hrel
      have hfl : (fl k).length = 20 := by unfold fl; simp; omega
      rcases (by omega : k < s ∨ k = s) with hlt | rfl
      · have hput := hB.set_ (k + 2) (.int .u8 ((48 : UInt8).toNat : Nat))
        rw [bcells_set, fl_put k (by omega)] at hput
        have hput' : Hid (Blk (wr.setCell ⟨G, k + 2, none⟩ (.int .u8 48)) G 5 (bcells (fl (k + 1)))) := hput
        have f0 := hB.frozen (k + 2)
        have c0 := hB.at_ (i := k + 2) (v := .int .u8 (((fl k)[k + 2]'(by omega)).toNat : Nat)) (bcells_get _ _ (by omega))
        generalize (((fl k)[k + 2]'(by omega)).toNat : Nat) = old at c0
        have hu2 := hu.setCell (p := ⟨G, k + 2, none⟩) (S := []) (fun h => absurd (show G < w.heap.size from h) (by omega)) (.int .u8 48)
        have hU2 := hU.setCell (p := ⟨G, k + 2, none⟩) (S := []) (fun h => absurd (show G < w3.heap.size from h) (by omega)) (.int .u8 48)
        have s1 : (k : Int) < (s : Int) := by omega
        clear hput hB hu hU
        go_wp2
        go_roundw
        case rel => exact ⟨k + 1, by omega, by go_num, hput'.out, hu2, hU2⟩
        case measure => first | (simp [intOf]; done) | (simp [intOf]; omega)
      · have s1 : ¬ (k : Int) < (k : Int) := by omega
        have hne : ¬ 20 = 2 + k := by omega
        have hne2 : ¬ 20 = k + 2 := by omega
        have hsrc : ∀ j u, (bvals (pd (nd n) n))[j]? = some u → wr.cell? ((⟨g, 0, none⟩ : Addr).add j) = some u := fun j u hj => by
          rw [addr_addo, Nat.zero_add]
          exact (hU.cell (p := ⟨g, j, none⟩) hgl (by simp)).trans (HCE.out j u hj)
        have HSRC := hide hsrc
        have hlen : (bvals (pd (nd n) n)).length = d := by rw [bvals_len, pd_len, HD.out]
        have HLEN := hide hlen
        clear hsrc hlen
        have hB9 : wr.heap[G]? = some (.cells (bvals (fl k)).toArray 5 (0, 0)) := hB
        have hbel := hu.nil
        go_wp2_with (with_reducible refine wpList_copy_splice rfl (.tmp 52) (.tmp 53) 78 78 rfl 5 Tryz.underlying78 size5 (some ⟨G, 2 + k, none⟩) (some ⟨g, 0, none⟩) (20 - (2 + k)) (20 - (2 + k)) d cap rfl rfl G (2 + k) (bvals (fl k)) 5 hB9 (bvals (pd (nd n) n)) ?a1 ?a2 ?a3 ?a4 w.heap.size w hbel hGw ?_)
        case a1 => rw [HLEN.out]; show d = min d (20 - (2 + k)); omega
        case a2 => exact fun _ j v hj => by have := HSRC.out j v hj; rwa [addr_addo, Nat.zero_add] at this
        case a3 => rw [HLEN.out, bvals_len, hfl]; omega
        case a4 => exact fun u hu => bvals_one _ u hu
        intro w8 hg8 hb8
        have u8 : Upd [] w w8 := Upd.of_below hb8 []
        have hcur : splice (bvals (fl k)) (2 + k) (bvals (pd (nd n) n)) = bvals (decText n) := by
          have := HF.out
          rw [HND.out] at this
          exact this
        have hB8 : Blk w8 G 5 (bcells (decText n)) := by
          have h := hg8.out
          rw [hcur] at h
          exact h
        have hdl : (decText n).length = 20 := by
          rw [HDT.out, HD.out]
          simp only [List.length_cons, List.length_append, List.length_replicate, pd_len]
          omega
        have hst : (convert 78 9 (.slice (some ⟨G, 0, none⟩) 20 20)).run Tryz.prog w8 = .ok (.string (bs (decText n))) w8 := by
          have := run_convert_bytes_back (P := Tryz.prog) w8 78 9 5 ⟨G, 0, none⟩ 20 (decText n) Tryz.underlying78 Tryz.underlying5 Tryz.underlying9 (fun j hj => by rw [addr_addo, Nat.zero_add]; exact hB8.at_ (bcells_get _ _ hj))
          rw [hdl] at this
          exact this
        clear hg8 hb8 hcur hB8 hdl HF HDT HSRC HLEN
        go_wp2
        go_ret
        exact ⟨rfl, u8⟩
  · obtain ⟨q, hq⟩ : ∃ q, nd n = q + 18 := ⟨nd n - 18, by omega⟩
    have hq0 : 0 < q := by omega
    have hsp := pd_nd_split n hbig
    have hdt := decText_big n hbig
    have hq2 : nd n - 18 = q := by omega
    rw [hq2] at hsp hdt
    obtain ⟨P, hP⟩ : ∃ P, pd q (n / 1000000000000000000) = P := ⟨_, rfl⟩
    obtain ⟨F, hF⟩ : ∃ F, pd 18 n = F := ⟨_, rfl⟩
    have hPl : P.length = q := by rw [← hP, pd_len]
    have hFl : F.length = 18 := by rw [← hF, pd_len]
    rw [hP, hF] at hsp hdt
    have HDT := hide hdt
    have hc1 : ∀ j u, (bvals P)[j]? = some u → w3.cell? ⟨g, j, none⟩ = some u := fun j u hj => HCE.out j u (by
      rw [hsp, bvals_append, List.getElem?_append_left (by have := (List.getElem?_eq_some_iff.1 hj).1; exact this)]
      exact hj)
    have hc2 : ∀ j u, (bvals F)[j]? = some u → w3.cell? ⟨g, q + j, none⟩ = some u := fun j u hj => HCE.out (q + j) u (by
      rw [hsp, bvals_append, List.getElem?_append_right (by rw [bvals_len, hPl]; omega), bvals_len, hPl, Nat.add_sub_cancel_left]
      exact hj)
    have HC1 := hide hc1
    have HC2 := hide hc2
    rw [hq] at hgc hnd ⊢
    obtain ⟨Z, hZ⟩ : ∃ Z, List.replicate (q + 19) (0 : UInt8) = Z := ⟨_, rfl⟩
    have hZl : Z.length = q + 19 := by rw [← hZ]; simp
    have hmk : ∀ w : World, (Instr.makeSlice 78 (.int .i64 ((q : Int) + 18 + 1)) (.int .i64 ((q : Int) + 18 + 1))).run Tryz.prog w = .ok (.slice (some ⟨w.heap.size, 0, none⟩) (q + 19) (q + 19)) (w.alloc (.cells (bcells Z) 5)) := fun w => by
      have := run_make_rowN (P := Tryz.prog) 78 5 i0 _ Tryz.underlying78 hi hz0 .i64 .i64 (q + 19) (q + 19) (Nat.le_refl _) (by rw [hz2]; omega) (by omega) w
      rw [hz1, Nat.mul_one] at this
      rw [← hZ, ← made_bytes]
      have e : (((q + 19 : Nat) : Int)) = (q : Int) + 18 + 1 := by omega
      rw [e] at this
      exact this
    have t1 : decide ((q : Int) + 18 ≤ 18) = false := decide_eq_false (by omega)
    clear hn hn0 hZ hsp hdt hP hF hq2 hc1 hc2 hq hbig hnp
    go_upto_region 21 with (fail)
    have hB := Blk.new w3 5 (bcells Z)
    have u4 := u3.alloc (.cells (bcells Z) 5)
    have U4 := (Upd.refl [] w3).alloc (.cells (bcells Z) 5)
    generalize w3.alloc (.cells (bcells Z) 5) = w4 at *
    obtain ⟨G, hG⟩ : ∃ G, w3.heap.size = G := ⟨_, rfl⟩
    have hGw : w.heap.size ≤ G := by have := u3.size; omega
    have hgG : g < G := by omega
    rw [hG] at hB ⊢
    have hB9 : w4.heap[G]? = some (.cells (bvals Z).toArray 5 (0, 0)) := hB
    have hbel : Below w3.heap.size w3 w4 := U4.nil
    have hGG : w3.heap.size ≤ G := by omega
    have e18 : (q : Int) + 18 - 18 = (q : Int) := by omega
    have s1 : (q : Int) ≤ (cap : Int) := by omega
    have hlP : (bvals P).length = q := by rw [bvals_len, hPl]
    have HLP := hide hlP
    have hlF : (bvals F).length = 18 := by rw [bvals_len, hFl]
    have HLF := hide hlF
    have hlZ : (bvals Z).length = q + 19 := by rw [bvals_len, hZl]
    have HLZ := hide hlZ
    clear hmk t1 hB hlP hlF hlZ
    go_wp2_with (with_reducible refine wpList_copy_splice rfl (.tmp 60) (.tmp 63) 78 78 rfl 5 Tryz.underlying78 size5 (some ⟨G, 0, none⟩) (some ⟨g, 0, none⟩) (q + 19) (q + 19) q cap rfl rfl G 0 (bvals Z) 5 hB9 (bvals P) ?b1 ?b2 ?b3 ?b4 w3.heap.size w3 hbel hGG ?_)
    case b1 => rw [HLP.out]; show q = min q (q + 19); omega
    case b2 => exact fun _ j v hj => (U4.cell (p := ⟨g, j, none⟩) hgl (by simp)).trans (HC1.out j v hj)
    case b3 => rw [HLP.out, HLZ.out]; omega
    case b4 => exact fun u hu => bvals_one _ u hu
    intro w5 hg5 hb5
    have U5 : Upd [] w3 w5 := Upd.of_below (by rw [hG]; exact hb5) []
    obtain ⟨R, hR⟩ : ∃ R, Z.drop (q + 1) = R := ⟨_, rfl⟩
    have hRl : R.length = 18 := by rw [← hR, List.length_drop, hZl]; omega
    obtain ⟨o, ho⟩ : ∃ o, Z.drop q = o :: R := ⟨Z[q]'(by omega), by rw [← hR, List.drop_eq_getElem_cons (by omega)]⟩
    have hB5 : Blk w5 G 5 (bcells (P ++ o :: R)) := by
      have h := hg5.out
      have e : splice (bvals Z) 0 (bvals P) = bvals (P ++ o :: R) := by
        unfold splice
        rw [List.take_zero, List.nil_append, Nat.zero_add, HLP.out, bvals_append]
        congr 1
        unfold bvals
        rw [← List.map_drop, ho]
      rw [e] at h
      exact h
    have hput := hB5.set_ q (.int .u8 ((46 : UInt8).toNat : Nat))
    have hset : (P ++ o :: R).set q 46 = P ++ 46 :: R := by
      rw [List.set_append_right _ _ (by omega), hPl, Nat.sub_self]; rfl
    rw [bcells_set, hset] at hput
    have hput' : Blk (w5.setCell ⟨G, q, none⟩ (.int .u8 46)) G 5 (bcells (P ++ 46 :: R)) := hput
    have f0 := hB5.frozen q
    have hlo : q < (P ++ o :: R).length := by rw [List.length_append, List.length_cons]; omega
    have c0 := hB5.at_ (i := q) (v := .int .u8 (((P ++ o :: R)[q]'hlo).toNat : Nat)) (bcells_get _ _ hlo)
    generalize (((P ++ o :: R)[q]'hlo).toNat : Nat) = old at c0
    have U6 := U5.setCell (p := ⟨G, q, none⟩) (S := []) (fun h => absurd (show G < w3.heap.size from h) (by omega)) (.int .u8 46)
    clear hg5 hb5 hB9 hbel hput hset ho hR U4 u4 U5 hB5 hlo
    go_upto_region 24 with (fail)
    generalize w5.setCell ⟨G, q, none⟩ (.int .u8 46) = w6 at *
    clear f0 c0
    have hB6 : w6.drew.heap[G]? = some (.cells (bvals (P ++ 46 :: R)).toArray 5 (0, 0)) := hput'.drew
    have hbel6 : Below w3.heap.size w3 w6.drew := U6.drew.nil
    have hGG6 : w3.heap.size ≤ G := by omega
    have n1 : ¬ cap = q := by omega
    have n2 : ¬ q + 19 = q + 1 := by omega
    have n3 : (q : Int) ≤ (q : Int) + 18 := by omega
    have n4 : (q : Int) + 1 ≤ (q : Int) + 19 := by omega
    have n6 : (0 : Int) ≤ (q : Int) + 1 := by omega
    have n7 : (0 : Int) ≤ (q : Int) := by omega
    have n5 : ((q : Int) + 1).toNat = q + 1 := by omega
    have U6d := U6.drew
    clear e18
    have k1 : IntKind.i64.wrap ((q : Int) + 1) = (q : Int) + 1 := by rw [IntKind.wrap_i64]; omega
    go_region_held3 (fun w' => True) (trivial)
      (first
        | (refine step_copy_splice rfl (.tmp 71) (.tmp 74) 78 78 rfl 5 Tryz.underlying78 size5 (some ⟨G, q + 1, none⟩) (some ⟨g, q, none⟩) 18 18 18 (cap - q) (by rfl) (by rfl) G (q + 1) (bvals (P ++ 46 :: R)) 5 hB6 (bvals F) (by rw [HLF.out]; rfl) (fun _ => ⟨rfl, _, rfl, fun j v hj => by rw [addr_addo]; exact (U6d.cell (p := ⟨g, q + j, none⟩) hgl (by simp)).trans (HC2.out j v hj)⟩) (by rw [HLF.out, bvals_len, List.length_append, List.length_cons]; omega) (fun u hu => bvals_one _ u hu) w3.heap.size w3 hbel6 hGG6 ?_
           intro w7 hg7 hb7))
    have U7 : Upd [] w3 w7 := Upd.of_below hb7 []
    have u7 := u3.on0 U7
    have hcur : splice (bvals (P ++ 46 :: R)) (q + 1) (bvals F) = bvals (decText n) := by
      unfold splice
      have h1 : bvals (P ++ 46 :: R) = (bvals P ++ [.int .u8 46]) ++ bvals R := by unfold bvals; simp
      have h2 : (bvals P ++ [Value.int .u8 46]).length = q + 1 := by rw [List.length_append, HLP.out]; rfl
      rw [h1, HLF.out, HDT.out]
      conv => lhs; rw [← h2]
      rw [List.take_left, List.drop_append]
      have h3 : (bvals P ++ [Value.int .u8 46]).drop ((bvals P ++ [Value.int .u8 46]).length + 18) = [] := List.drop_of_length_le (by omega)
      rw [h3, Nat.add_sub_cancel_left, List.drop_of_length_le (by rw [bvals_len, hRl]; exact Nat.le_refl _)]
      unfold bvals
      simp
    have hB8 : Blk w7 G 5 (bcells (decText n)) := by
      have h := hg7.out
      rw [hcur] at h
      exact h
    have hdl : (decText n).length = q + 19 := by
      rw [HDT.out, List.length_append, List.length_cons]; omega
    have hst : (convert 78 9 (.slice (some ⟨G, 0, none⟩) (q + 19) (q + 19))).run Tryz.prog w7 = .ok (.string (bs (decText n))) w7 := by
      have := run_convert_bytes_back (P := Tryz.prog) w7 78 9 5 ⟨G, 0, none⟩ (q + 19) (decText n) Tryz.underlying78 Tryz.underlying5 Tryz.underlying9 (fun j hj => by rw [addr_addo, Nat.zero_add]; exact hB8.at_ (bcells_get _ _ hj))
      rw [hdl] at this
      exact this
    clear hg7 hb7 hcur hB8 hdl HDT HC1 HC2 HLP HLF HLZ hput' hB6 hbel6 n1 n2 n3 n4 n5 n6 n7 k1 U6 U6d
    go_wp2
    go_ret
    exact ⟨rfl, u7⟩

end Go.Proofs.YtnajekpckbfcdaaGreatDoor
